/- A word made into a key; what stands when new blocks are laid. -/
import Derived.Test.YtmdbnjepajifpaaGet
import Derived.Laws.IdiomStrings
namespace Go.Proofs.Ytmdbnjepajifpaa
open Go.RowKit

def keyOf (s : ByteArray) : List UInt8 := s.data.toList
theorem keyOf_len (s : ByteArray) : (keyOf s).length = s.size := by unfold keyOf; rw [Array.length_toList]; rfl
theorem keyOf_inj {s u : ByteArray} (h : keyOf s = keyOf u) : s = u := by
  unfold keyOf at h
  cases s; cases u
  congr 1
  exact Array.toList_inj.1 h

/-- The world behind a conversion. -/
def convW (w : World) (s : ByteArray) : World := w.drew.alloc (.cells (bytesRow s (grownCap w s.size 0 5)) 5 ((bytesRow s (grownCap w s.size 0 5)).size, (bytesRow s (grownCap w s.size 0 5)).size + 1))

theorem conv_run (w : World) (s : ByteArray) : (convert 9 53 (.string s)).run Try.prog w = .ok (.slice (some ⟨w.heap.size, 0, none⟩) s.size (grownCap w s.size 0 5)) (convW w s) :=
  run_bytes_of_string w 9 53 5 s Try.underlying9 Try.underlying53 Try.underlying5

theorem conv_size (w : World) (s : ByteArray) : (convW w s).heap.size = w.heap.size + 1 := by simp [convW]
theorem conv_tch (w : World) (s : ByteArray) (T : Nat → Prop) : Tch w (convW w s) T := ((Tch.refl w T).drw).alloc _
theorem conv_key (w : World) (s : ByteArray) : KeyAt (convW w s) w.heap.size (grownCap w s.size 0 5) (keyOf s) := by
  have hge := grownCap_ge w s.size 0 5
  have hsz : (bytesRow s (grownCap w s.size 0 5)).size = grownCap w s.size 0 5 := by
    simp [bytesRow]
    have : s.size = s.data.size := rfl
    omega
  have hh : (convW w s).heap[w.heap.size]? = some (.cells (bytesRow s (grownCap w s.size 0 5)) 5 ((bytesRow s (grownCap w s.size 0 5)).size, (bytesRow s (grownCap w s.size 0 5)).size + 1)) := heap_new w.drew _
  refine ⟨fun i hi => ?_, by rw [keyOf_len]; exact hge, _, _, hh, by omega, fun i hi => ?_⟩
  · rw [keyOf_len] at hi
    have hi' : i < s.data.size := hi
    rw [Nat.zero_add, cell_of_block hh, bytesRow_at s _ i hi']
    unfold keyOf
    rw [List.getD_eq_getElem?_getD, Array.getElem?_toList, Array.getElem?_eq_getElem hi']
    rfl
  · simp only [World.frozen?, hh]
    simp
    omega

section
variable {w w1 : World} {t : Nat} {mp : Int} {rp : List UInt8} {M : List UInt8 → Option Int} {O : Nat → Prop}

theorem TA.later {N : Nat → Prop} {nd : Nat → Nd} {wd : Nat → List UInt8} {S : Nat → List UInt8} {sh : Nat → Nat} (A : TA w t mp rp M O N nd wd S sh) (hk : ∀ k, O k → w1.heap[k]? = w.heap[k]?) (hs : w.heap.size ≤ w1.heap.size) : TA w1 t mp rp M O N nd wd S sh :=
  ⟨⟨A.T.I, fun p hp => by
      obtain ⟨o1, o2, o3, o4⟩ := A.own p hp
      exact (A.T.H p hp).frame (hk _ o1) (hk _ o2) (hk _ o3) (hk _ o4), A.T.rn⟩, A.C, A.own, fun k h => Nat.lt_of_lt_of_le (A.lt k h) hs, A.mp, A.rp⟩
theorem TrieAt.later {lf : Nat} (T : TrieAt w t lf mp rp M O) (hk : ∀ k, O k → w1.heap[k]? = w.heap[k]?) (hs : w.heap.size ≤ w1.heap.size) : TrieAt w1 t lf mp rp M O := by
  obtain ⟨N, nd, wd, S, sh, A, L⟩ := T
  exact ⟨N, nd, wd, S, sh, A.later hk hs, L⟩
theorem Fresh.later (F : Fresh w t mp O) (hk : ∀ k, O k → w1.heap[k]? = w.heap[k]?) : Fresh w1 t mp O := by
  obtain ⟨l, a, cap, mc, h1, h2, h3⟩ := F
  exact ⟨l, a, cap, mc, (hk _ ((h3 _).2 (.inl rfl))).trans h1, h2.frame (hk _ ((h3 _).2 (.inr (.inl rfl)))) (hk _ ((h3 _).2 (.inr (.inr rfl)))), h3⟩
theorem GS.later {j : Nat} (G : GS w t mp j M O) (hk : ∀ k, O k → w1.heap[k]? = w.heap[k]?) (hs : w.heap.size ≤ w1.heap.size) : GS w1 t mp j M O := by
  obtain ⟨h, G⟩ := G
  refine ⟨fun k hk' => Nat.lt_of_lt_of_le (h k hk') hs, ?_⟩
  rcases G with ⟨h1, h2, F⟩ | ⟨h1, T⟩ | ⟨h1, rp, T⟩
  · exact .inl ⟨h1, h2, F.later hk⟩
  · exact .inr (.inl ⟨h1, T.later hk hs⟩)
  · exact .inr (.inr ⟨h1, rp, T.later hk hs⟩)
theorem GS.tch {j : Nat} (G : GS w t mp j M O) (h : Tch w w1 (fun _ => False)) : GS w1 t mp j M O := G.later (fun k hk => h.keep k (G.1 k hk) (fun h => h)) h.size
theorem TrieAt.tch {lf : Nat} (T : TrieAt w t lf mp rp M O) (h : Tch w w1 (fun _ => False)) : TrieAt w1 t lf mp rp M O := T.later (fun k hk => h.keep k (T.lt k hk) (fun h => h)) h.size
end

/-- The words that are put. -/
structure WS (ws : List ByteArray) : Prop where
  two : 2 ≤ ws.length
  first : ws[0]? = some ⟨#[65]⟩
  second : ws[1]? = some ⟨#[90]⟩
  len : ∀ s, s ∈ ws → 0 < s.size ∧ s.size ≤ 10

/-- A row of words in memory. -/
def Row (w : World) (v : Value) (ws : List ByteArray) : Prop :=
  (v = .slice none 0 0 ∧ ws = []) ∨ ∃ g c, v = .slice (some ⟨g, 0, none⟩) ws.length c ∧ g < w.heap.size ∧ ws.length ≤ c ∧ ∀ i s, ws[i]? = some s → w.cell? ⟨g, i, none⟩ = some (.string s)
theorem Row.tch {w w1 : World} {v : Value} {ws : List ByteArray} (h : Row w v ws) {T : Nat → Prop} (hT : Tch w w1 T) (hd : ∀ g, v.ownBlock = some g → ¬ T g) : Row w1 v ws := by
  rcases h with h | ⟨g, c, rfl, h1, h2, h3⟩
  · exact .inl h
  · refine .inr ⟨g, c, rfl, Nat.lt_of_lt_of_le h1 hT.size, h2, fun i s hs => ?_⟩
    rw [World.cell?_of_block (hT.keep g h1 (hd g (by simp [Value.ownBlock])))]
    exact h3 i s hs

/-- The map after words were put: 'over': each replaces what was there. -/
def stepM (over : Bool) (M : List UInt8 → Option Int) (K : List UInt8) (i : Int) : List UInt8 → Option Int := if over || (M K).isNone then setM M K (some i) else M
def mapOf (over : Bool) (ws : List ByteArray) : Nat → List UInt8 → Option Int
  | 0 => fun _ => none
  | j + 1 => match ws[j]? with
    | some s => stepM over (mapOf over ws j) (keyOf s) j
    | none => mapOf over ws j
theorem mapOf_succ {over : Bool} {ws : List ByteArray} {j : Nat} {s : ByteArray} (h : ws[j]? = some s) : mapOf over ws (j + 1) = stepM over (mapOf over ws j) (keyOf s) j := by
  simp [mapOf, h]

/-- What a round leaves: the trie with one word more. -/
theorem grow_round {w w' : World} {B t j : Nat} {mp : Int} {over : Bool} {ws : List ByteArray} {O : Nat → Prop} {s : ByteArray} {e : Ending} (hs : ws[j]? = some s) (hB : ∀ k, O k → B ≤ k) (hBw : B ≤ w.heap.size)
    (h : PutG (convW w s) t mp j (mapOf over ws j) O (keyOf s) j over w.heap.size e w') :
    e = .returned (.bool (over || (mapOf over ws j (keyOf s)).isNone)) ∧ ∃ O', GS w' t mp (j + 1) (mapOf over ws (j + 1)) O' ∧ (∀ k, O' k → B ≤ k) ∧ Tch w w' (fun k => B ≤ k) := by
  obtain ⟨h1, O', h2, h3, h4⟩ := h
  refine ⟨h1, O', by rw [mapOf_succ hs]; exact h2, fun k hk => ?_, (conv_tch w s _).trans h4 (fun b hb h => hB b h)⟩
  rcases h3 k hk with h | h | h
  · exact hB k h
  · omega
  · have := h.1
    rw [conv_size] at this
    omega

end Go.Proofs.Ytmdbnjepajifpaa
