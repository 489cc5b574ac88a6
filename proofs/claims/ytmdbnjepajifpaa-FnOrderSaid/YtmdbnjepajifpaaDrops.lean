/- impl.drop: keys deleted one by one. -/
import Derived.Test.YtmdbnjepajifpaaC5
set_option linter.unusedVariables false
set_option linter.unusedSimpArgs false
namespace Go.Proofs.Ytmdbnjepajifpaa
open Go.RowKit Go.Proofs.YtmdbnjepajifpaaW.PrintWords Go.Proofs.YtmdbnjepajifpaaW.PrintLast Go.Proofs.YtmdbnjepajifpaaW.PrintMore

/-- The map after the first j words were deleted. -/
def dropM (M : List UInt8 → Option Int) (gs : List ByteArray) (j : Nat) : List UInt8 → Option Int := fun k => if k ∈ (gs.take j).map keyOf then none else M k

theorem dropM_zero (M : List UInt8 → Option Int) (gs : List ByteArray) : dropM M gs 0 = M := by funext k; simp [dropM]
theorem dropM_succ (M : List UInt8 → Option Int) (gs : List ByteArray) {j : Nat} {s : ByteArray} (h : gs[j]? = some s) : dropM M gs (j + 1) = setM (dropM M gs j) (keyOf s) none := by
  funext k
  simp only [dropM, setM, List.take_add_one, h, Option.toList_some, List.map_append, List.map_cons, List.map_nil, List.mem_append, List.mem_singleton]
  by_cases h1 : k = keyOf s
  · simp [h1]
  · simp [h1]

/-- The words that are deleted: each there, each once, none of A and Z. -/
structure GO (M : List UInt8 → Option Int) (gs : List ByteArray) : Prop where
  nodup : gs.Nodup
  mem : ∀ s, s ∈ gs → M (keyOf s) ≠ none ∧ 0 < s.size ∧ s.size ≤ 10 ∧ keyOf s ≠ [65] ∧ keyOf s ≠ [90]
  a : M [65] ≠ none
  z : M [90] ≠ none

theorem GO.keep {M : List UInt8 → Option Int} {gs : List ByteArray} (_G : GO M gs) (j : Nat) {k : List UInt8} (hk : M k ≠ none) (h : ∀ s, s ∈ gs → keyOf s ≠ k) : dropM M gs j k ≠ none := by
  unfold dropM
  rw [if_neg]
  · exact hk
  · intro hm
    obtain ⟨s, hs, e⟩ := List.mem_map.1 hm
    exact h s (List.mem_of_mem_take hs) e
theorem GO.at (M : List UInt8 → Option Int) {gs : List ByteArray} (G : GO M gs) {j : Nat} {s : ByteArray} (h : gs[j]? = some s) : dropM M gs j (keyOf s) ≠ none := by
  have hs := List.mem_of_getElem? h
  unfold dropM
  rw [if_neg]
  · exact (G.mem s hs).1
  · intro hm
    obtain ⟨u, hu, e⟩ := List.mem_map.1 hm
    have hus := keyOf_inj e
    subst hus
    obtain ⟨i, hi, hiu⟩ := List.mem_take_iff_getElem.1 hu
    have hlt : i < gs.length := by omega
    have h1 : gs[i]? = gs[j]? := by rw [h, List.getElem?_eq_getElem hlt, hiu]
    have := (List.getElem?_inj hlt G.nodup).1 h1
    omega

/-- A round: the trie behind the first j deletions. -/
def DropI (w : World) (t : Nat) (mp : Int) (rp : List UInt8) (M : List UInt8 → Option Int) (gs : List ByteArray) (j : Nat) (O : Nat → Prop) (wr : World) : Prop :=
  j ≤ gs.length ∧ TrieAt wr t 1 mp rp (dropM M gs j) O ∧ (∀ k, O k → w.heap.size ≤ k) ∧ Tch w wr (fun _ => False)

theorem drop_round {w wr : World} {t : Nat} {mp : Int} {rp : List UInt8} {M : List UInt8 → Option Int} {gs : List ByteArray} {j : Nat} {O : Nat → Prop} (G : GO M gs) (H : DropI w t mp rp M gs j O wr) {s : ByteArray} (hs : gs[j]? = some s) :
    Calls Try.prog 46 #[ptr t, .slice (some ⟨wr.heap.size, 0, none⟩) s.size (grownCap wr s.size 0 5)] (convW wr s) (fun e w2 => e = .returned (.bool true) ∧ ∃ O', DropI w t mp rp M gs (j + 1) O' w2 ∧ Tch wr w2 O ∧ ∀ k, O' k → O k ∨ wr.heap.size ≤ k) := by
  obtain ⟨hj, T, hO, hT⟩ := H
  have hm := G.mem s (List.mem_of_getElem? hs)
  have hk := conv_key wr s
  have h := delete_any (convW wr s) t mp rp (dropM M gs j) O (T.tch (conv_tch _ _ _)) wr.heap.size (grownCap wr s.size 0 5) (keyOf s) hk.1 hk.2.1 (by rw [keyOf_len]; exact hm.2.1) (by rw [keyOf_len]; exact hm.2.2.1) (G.at M hs)
    (G.keep j G.a (fun u hu => (G.mem u hu).2.2.2.1)) (G.keep j G.z (fun u hu => (G.mem u hu).2.2.2.2)) hm.2.2.2.1 hm.2.2.2.2
  rw [keyOf_len] at h
  refine h.mono ?_
  rintro e w2 ⟨rfl, O', T', hO', hT'⟩
  rw [← dropM_succ M gs hs] at T'
  have hlt := (List.getElem?_eq_some_iff.1 hs).1
  have hs0 := hT.size
  have hT2 : Tch wr w2 O := (conv_tch wr s _).trans hT' (fun _ _ h => h)
  refine ⟨rfl, O', ⟨by omega, T', fun k hk => ?_, hT.trans hT2 (fun b hb h => by have := hO b h; omega)⟩, hT2, fun k hk => ?_⟩
  · rcases hO' k hk with h | h
    · exact hO k h
    · have := h.1; rw [conv_size] at this; omega
  · rcases hO' k hk with h | h
    · exact .inl h
    · have := h.1; rw [conv_size] at this; exact .inr (by omega)

theorem TrieAt.lf {w : World} {t m n : Nat} {mp : Int} {rp : List UInt8} {M : List UInt8 → Option Int} {O : Nat → Prop} (h : TrieAt w t m mp rp M O) (hn : n ≤ m) : TrieAt w t n mp rp M O := by
  obtain ⟨N, nd, wd, S, sh, A, L⟩ := h
  exact ⟨N, nd, wd, S, sh, A, L.mono hn⟩

theorem DropI.start {w w1 : World} {t m : Nat} {mp : Int} {rp : List UInt8} {M : List UInt8 → Option Int} {gs : List ByteArray} {O : Nat → Prop} (T : TrieAt w1 t m mp rp M O) (hm : 1 ≤ m) (hO : ∀ k, O k → w.heap.size ≤ k) (hT : Tch w w1 (fun _ => False)) : DropI w t mp rp M gs 0 O w1 :=
  ⟨Nat.zero_le _, by rw [dropM_zero]; exact T.lf hm, hO, hT⟩

set_option maxRecDepth 100000 in
set_option maxHeartbeats 3200000 in
/-- w0: the world from which on the trie's blocks are new; the words' row lies before it. -/
theorem drop_any (w0 w : World) (t m : Nat) (hm : 1 ≤ m) (mp : Int) (rp : List UInt8) (M : List UInt8 → Option Int) (O : Nat → Prop) (T : TrieAt w t m mp rp M O) (hO : ∀ k, O k → w0.heap.size ≤ k) (hT0 : Tch w0 w (fun _ => False)) (v : Value) (gs : List ByteArray) (G : GO M gs) (R : Row w0 v gs) (hmax : gs.length ≤ 1000000000) :
    Calls Try.prog 47 #[ptr t, v] w (fun e w' => e = .returned (ptr t) ∧ ∃ O', DropI w0 t mp rp M gs gs.length O' w') := by
  obtain ⟨g, c, hv, hcell⟩ : ∃ (g : Option Addr) (c : Nat), v = .slice g gs.length c ∧ ∀ w1, Tch w0 w1 (fun _ => False) → ∀ i s, gs[i]? = some s → ∃ b, g = some ⟨b, 0, none⟩ ∧ w1.cell? ⟨b, i, none⟩ = some (.string s) := by
    rcases R with ⟨rfl, rfl⟩ | ⟨b, c, rfl, h1, h2, h3⟩
    · exact ⟨none, 0, rfl, fun _ _ i s h => by simp at h⟩
    · exact ⟨_, c, rfl, fun w1 hT i s h => ⟨b, rfl, by rw [World.cell?_of_block (hT.keep b h1 (fun h => h))]; exact h3 i s h⟩⟩
  subst hv
  have HCELL := Lib.hid hcell
  have HG := Lib.hid G
  have hcv := conv_run
  have HS : Hid (DropI w0 t mp rp M gs 0 O w) := DropI.start T hm hO hT0
  clear R hcell G T hO hT0
  go_enter Try.func47, Try.ntmps47
  go_wp2_with fail
  go_loopw [9] (fun i wr => ∃ (j : Nat) (O1 : Nat → Prop), i = .int .i64 (j : Int) ∧ Hid (DropI w0 t mp rp M gs j O1 wr)) (fun i _ => gs.length - (intOf i).toNat)
  case atStart => exact ⟨0, O, rfl, HS⟩
  case round =>
    obtain ⟨j, O1, rfl, HI⟩ := hrel
    by_cases hj : j < gs.length
    · have hj' : (j : Int) < (gs.length : Int) := by omega
      obtain ⟨s, hs⟩ : ∃ s, gs[j]? = some s := ⟨_, List.getElem?_eq_getElem hj⟩
      obtain ⟨b, rfl, hc0⟩ := HCELL.out wr HI.out.2.2.2 j s hs
      have HD := Lib.hid (drop_round HG.out HI.out hs)
      clear hs
      go_wp2_with fail
      refine HD.out.mono ?_
      rintro e w2 ⟨rfl, O2, hI, _, _⟩
      have HI2 := Lib.hid hI
      clear hI
      go_wp2_with fail
      go_roundw
      case rel => exact ⟨j + 1, O2, by go_num, HI2⟩
      case measure => simp [intOf]; omega
    · have hj' : ¬ (j : Int) < (gs.length : Int) := by omega
      have hjl : j = gs.length := by have := HI.out.1; omega
      subst hjl
      go_wp2_with fail
      go_ret
      exact ⟨rfl, O1, HI.out⟩

end Go.Proofs.Ytmdbnjepajifpaa
