/- Tries in memory, part C4. Lemmas; no statement of their own. -/
import Derived.Test.YtmdbnjepajifpaaC3
import Derived.Laws.IdiomStrings
import Derived.Test.YtmdbnjepajifpaaWMore

/- The first put into a trie without keys; a trie as it grows. -/
set_option linter.unusedVariables false
set_option linter.unusedSimpArgs false
namespace Go.Proofs.Ytmdbnjepajifpaa
open Go.RowKit

def oneNd (kb kc : Nat) (K : List UInt8) (i : Option Int) (l a cap : Nat) (mp mc : Int) : Nd := { np := false, sb := kb, so := 0, sc := kc, px := K, it := i, mp := mp, mc := mc, cl := .sp l a cap [] }

/-- A trie without keys: just made. -/
def Fresh (w : World) (t : Nat) (mp : Int) (O : Nat → Prop) : Prop :=
  ∃ l a cap mc, w.heap[t]? = some (freshNd l a cap mp mc).obj ∧ CLraw w (.sp l a cap []) ∧ ∀ k, O k ↔ (k = t ∨ k = l ∨ k = a)

theorem one_inv (t kb kc : Nat) (K : List UInt8) (i : Option Int) (l a cap : Nat) (mp mc : Int) (hK : K.length ≤ 10) :
    Inv t (fun p => p = t) (fun _ => oneNd kb kc K i l a cap mp mc) (fun _ => K) (fun _ => K) (fun _ => 0) := by
  refine ⟨rfl, rfl, ?_, ?_, ?_, ?_, ?_, ?_, ?_, ?_, ?_, ?_⟩
  · intro p _ _; rfl
  · intro p _ c hc; simp [oneNd, CL.kids] at hc
  · intro p _ c d hc; simp [oneNd, CL.kids] at hc
  · intro p _; simp [oneNd, CL.kids]
  · intro p _; trivial
  · intro c h hne; exact absurd h hne
  · intro p q hp hq _; rw [hp, hq]
  · intro p q hp hq _; rw [hp, hq]
  · intro p _; exact hK
  · intro p _ _; exact ⟨List.prefix_refl _, by simp [oneNd]⟩

def PutN (w : World) (t : Nat) (mp : Int) (O : Nat → Prop) (K : List UInt8) (i : Int) (kb : Nat) (e : Ending) (w' : World) : Prop :=
  e = .returned (.bool true) ∧ TrieAt w' t 2 mp K (setM (fun _ => none) K (some i)) (fun k => O k ∨ k = kb) ∧ Tch w w' O

theorem one_post {w : World} {t : Nat} {mp : Int} {O : Nat → Prop} (F : Fresh w t mp O) {kb kc : Nat} {K : List UInt8} (hK : KeyAt w kb kc K) (hk1 : K.length ≤ 10) (i : Int) :
    PutN w t mp O K i kb (.returned (.bool true)) ((w.setCell ⟨t, 0, none⟩ (.slice (some ⟨kb, 0, none⟩) K.length kc)).setCell ⟨t, 1, none⟩ (.iface 3 (.int .i64 i))) := by
  obtain ⟨l, a, cap, mc, h1, h2, h3⟩ := F
  obtain ⟨k1, k2, C, fr, k3, k4, k5⟩ := hK
  have ht := lt_of_heap h1
  obtain ⟨CL1, c1⟩ := h2.l_ty
  obtain ⟨CA1, c2⟩ := h2.a_ty
  have nl : l ≠ t := ne_of_type c1 h1 (CL.sty_ne _).1
  have na : a ≠ t := ne_of_type c2 h1 (by decide)
  have nk : kb ≠ t := ne_of_type k3 h1 (by decide)
  have kp : ∀ k, k ≠ t → ((w.setCell ⟨t, 0, none⟩ (.slice (some ⟨kb, 0, none⟩) K.length kc)).setCell ⟨t, 1, none⟩ (.iface 3 (.int .i64 i))).heap[k]? = w.heap[k]? := fun k h => by rw [heap_set_ne h, heap_set_ne h]
  have hT : Tch w ((w.setCell ⟨t, 0, none⟩ (.slice (some ⟨kb, 0, none⟩) K.length kc)).setCell ⟨t, 1, none⟩ (.iface 3 (.int .i64 i))) O :=
    ((Tch.refl w O).setCell _ _ (fun _ => (h3 t).2 (.inl rfl))).setCell _ _ (fun _ => (h3 t).2 (.inl rfl))
  have ho : ((w.setCell ⟨t, 0, none⟩ (.slice (some ⟨kb, 0, none⟩) K.length kc)).setCell ⟨t, 1, none⟩ (.iface 3 (.int .i64 i))).heap[t]? = some (oneNd kb kc K (some i) l a cap mp mc).obj := by
    rw [heap_set (heap_set h1 _)]; rfl
  refine ⟨rfl, ⟨fun p => p = t, fun _ => oneNd kb kc K (some i) l a cap mp mc, fun _ => K, fun _ => K, fun _ => 0, ⟨⟨one_inv t kb kc K (some i) l a cap mp mc hk1, ?_, rfl⟩, ⟨?_, ?_⟩, ?_, ?_, rfl, rfl⟩, ?_⟩, hT⟩
  · rintro p rfl
    refine ⟨ho, h2.frame (kp _ nl) (kp _ na), k2, fun _ => ⟨C, fr, (kp kb nk).trans k3, by show 0 + kc ≤ _; omega, fun j hj => by show World.frozen? _ ⟨kb, j, none⟩ = false; rw [frozen_same (kp kb nk)]; exact k5 j hj, fun j hj => ?_⟩⟩
    have hj' : j < K.length := hj
    have := k1 j hj'
    rw [cell_of_block k3] at this
    exact this
  · rintro p rfl; simp [setM, oneNd]
  · intro k hk
    by_cases h : k = K
    · exact ⟨t, rfl, h.symm⟩
    · simp [setM, h] at hk
  · rintro p rfl
    exact ⟨.inl ((h3 _).2 (.inl rfl)), .inl ((h3 _).2 (.inr (.inl rfl))), .inl ((h3 _).2 (.inr (.inr rfl))), .inr rfl⟩
  · intro k hk
    have hs : ((w.setCell ⟨t, 0, none⟩ (.slice (some ⟨kb, 0, none⟩) K.length kc)).setCell ⟨t, 1, none⟩ (.iface 3 (.int .i64 i))).heap.size = w.heap.size := by simp
    rw [hs]
    rcases hk with h | h
    · rcases (h3 k).1 h with h | h | h
      · omega
      · rw [h]; exact lt_of_heap c1
      · rw [h]; exact lt_of_heap c2
    · rw [h]; exact lt_of_heap k3
  · rintro p rfl; left; simp [oneNd]

set_option maxHeartbeats 6400000 in
set_option maxRecDepth 100000 in
theorem put_new (w : World) (t : Nat) (mp : Int) (O : Nat → Prop) (F : Fresh w t mp O) (kb kc : Nat) (K : List UInt8) (hK : KeyAt w kb kc K) (hk1 : K.length ≤ 10) (hkm : (K.length : Int) ≤ mp) (i : Int) (rep : Bool) :
    Calls Try.prog 62 #[ptr t, .slice (some ⟨kb, 0, none⟩) K.length kc, .iface 3 (.int .i64 i), .bool rep] w (PutN w t mp O K i kb) := by
  have HF := Lib.hid F
  have HK := Lib.hid hK
  obtain ⟨l, a, cap, mc, h1, h2, h3⟩ := F
  have c0 : w.cell? ⟨t, 0, none⟩ = some (.slice none 0 0) := by rw [cell_of_block h1]; rfl
  have c1 : w.cell? ⟨t, 1, none⟩ = some .nilIface := by rw [cell_of_block h1]; rfl
  have c2 : w.cell? ⟨t, 2, none⟩ = some (.int .i64 mp) := by rw [cell_of_block h1]; rfl
  have f0 := free_of_block h1 0
  have f1 := free_of_block h1 1
  have hnil := fun (W : World) (a : Addr) (n c : Nat) => Lib.run_eql_slice_nil (P := Try.prog) W 53 5 (some a) n c 0 0 Try.underlying53
  have hnil0 := fun (W : World) => Lib.run_eql_slice_nil (P := Try.prog) W 53 5 none 0 0 0 0 Try.underlying53
  clear h1 h2 h3 hK
  go_enter Try.func62, Try.ntmps62
  go_wp2_with fail
  refine wp_scope3 rfl rfl rfl ?_
  intro J0 J1 J2 hJ0 hJ1 hJ2
  cases rep <;> go_wp2_with (first | go_step3 | with_reducible refine j3_i0 ?_ | with_reducible refine j3_i1 ?_ | with_reducible refine j3_i2 ?_ | with_reducible refine j1_i0 ?_)
  all_goals
    rw [Exit.noGoto_ret]
    go_ret
    exact one_post HF.out HK.out hk1 i

/-- A trie that has got the first j words. -/
def GS (w : World) (t : Nat) (mp : Int) (j : Nat) (M : List UInt8 → Option Int) (O : Nat → Prop) : Prop :=
  (∀ k, O k → k < w.heap.size) ∧ ((j = 0 ∧ M = (fun _ => none) ∧ Fresh w t mp O) ∨ (j = 1 ∧ TrieAt w t 2 mp [65] M O) ∨ (2 ≤ j ∧ ∃ rp, TrieAt w t 2 10 rp M O))

def PutG (w : World) (t : Nat) (mp : Int) (j : Nat) (M : List UInt8 → Option Int) (O : Nat → Prop) (K : List UInt8) (i : Int) (rep : Bool) (kb : Nat) (e : Ending) (w' : World) : Prop :=
  e = .returned (.bool (rep || (M K).isNone)) ∧ ∃ O', GS w' t mp (j + 1) (if rep || (M K).isNone then setM M K (some i) else M) O' ∧ (∀ k, O' k → O k ∨ k = kb ∨ (w.heap.size ≤ k ∧ k < w'.heap.size)) ∧ Tch w w' O

theorem TrieAt.lt {w : World} {t lf : Nat} {mp : Int} {rp : List UInt8} {M : List UInt8 → Option Int} {O : Nat → Prop} (h : TrieAt w t lf mp rp M O) : ∀ k, O k → k < w.heap.size := by
  obtain ⟨_, _, _, _, _, A, _⟩ := h
  exact A.lt

theorem put_g (w : World) (t : Nat) (mp : Int) (j : Nat) (M : List UInt8 → Option Int) (O : Nat → Prop) (G : GS w t mp j M O) (kb kc : Nat) (K : List UInt8) (hK : KeyAt w kb kc K) (hkb : ¬ O kb)
    (hk0 : 0 < K.length) (hk1 : K.length ≤ 10) (hmp : 1 ≤ mp) (h0 : j = 0 → K = [65]) (h1 : j = 1 → K = [90]) (i : Int) (rep : Bool) :
    Calls Try.prog 62 #[ptr t, .slice (some ⟨kb, 0, none⟩) K.length kc, .iface 3 (.int .i64 i), .bool rep] w (PutG w t mp j M O K i rep kb) := by
  obtain ⟨hO, G⟩ := G
  rcases G with ⟨rfl, rfl, F⟩ | ⟨rfl, T⟩ | ⟨hj, rp, T⟩
  · have hk := h0 rfl
    refine (put_new w t mp O F kb kc K hK hk1 (by rw [hk]; exact hmp) i rep).mono ?_
    rintro e w' ⟨rfl, hT, hch⟩
    have hM : (rep || ((fun _ => none : List UInt8 → Option Int) K).isNone) = true := by simp
    refine ⟨by rw [hM], _, ⟨hT.lt, .inr (.inl ⟨rfl, ?_⟩)⟩, fun k hk => hk.imp id .inl, hch⟩
    rw [hM, if_pos rfl]
    rw [← hk]
    exact hT
  · have hk := h1 rfl
    refine (put_any w t mp [65] M O T kb kc K hK hkb hk0 hk1 (.inr (by rw [hk]; decide)) i rep).mono ?_
    rintro e w' ⟨rfl, O', rp', hT, h3, h4⟩
    exact ⟨rfl, O', ⟨hT.lt, .inr (.inr ⟨by omega, rp', hT⟩)⟩, h3, h4⟩
  · refine (put_any w t 10 rp M O T kb kc K hK hkb hk0 hk1 (.inl rfl) i rep).mono ?_
    rintro e w' ⟨rfl, O', rp', hT, h3, h4⟩
    exact ⟨rfl, O', ⟨hT.lt, .inr (.inr ⟨by omega, rp', hT⟩)⟩, h3, h4⟩

theorem insert_g (w : World) (t : Nat) (mp : Int) (j : Nat) (M : List UInt8 → Option Int) (O : Nat → Prop) (G : GS w t mp j M O) (kb kc : Nat) (K : List UInt8) (hK : KeyAt w kb kc K) (hkb : ¬ O kb)
    (hk0 : 0 < K.length) (hk1 : K.length ≤ 10) (hmp : 1 ≤ mp) (h0 : j = 0 → K = [65]) (h1 : j = 1 → K = [90]) (i : Int) :
    Calls Try.prog 44 #[ptr t, .slice (some ⟨kb, 0, none⟩) K.length kc, .iface 3 (.int .i64 i)] w (PutG w t mp j M O K i false kb) := by
  have HP := Lib.hid (put_g w t mp j M O G kb kc K hK hkb hk0 hk1 hmp h0 h1 i false)
  clear G hK hkb h0 h1
  go_enter Try.func44, Try.ntmps44
  go_wp2_with fail
  refine HP.out.mono ?_
  rintro e w' ⟨rfl, h⟩
  go_wp2_with fail
  go_ret
  exact ⟨rfl, h⟩

end Go.Proofs.Ytmdbnjepajifpaa

/- Get, Match, MatchSubtree. -/
namespace Go.Proofs.Ytmdbnjepajifpaa
open Go.RowKit

section
variable {w : World} {t : Nat} {mp : Int} {rp : List UInt8} {M : List UInt8 → Option Int} {O : Nat → Prop} {N : Nat → Prop} {nd : Nat → Nd} {wd : Nat → List UInt8} {S : Nat → List UInt8} {sh : Nat → Nat}

/-- Beneath each node there is a key. -/
theorem has_key (A : TA w t mp rp M O N nd wd S sh) {m : Nat} (hm : 1 ≤ m) (L : Lf m N nd) : ∀ (n : Nat) (p : Nat), 10 - (wd p).length ≤ n → N p → ∃ k, M k ≠ none ∧ wd p <+: k := by
  intro n
  induction n with
  | zero =>
    intro p hn hp
    rcases L p hp with h | h
    · exact ⟨wd p, by rw [A.C.at_ p hp]; exact h, List.prefix_refl _⟩
    · exfalso
      obtain ⟨c, hc⟩ : ∃ c, c ∈ (nd p).cl.kids := by
        cases hk : (nd p).cl.kids with
        | nil => rw [hk] at h; simp at h; omega
        | cons c l => exact ⟨c, by simp⟩
      have h1 := A.T.I.kid_longer hp hc
      have h2 := A.T.I.len c (A.T.I.kid p hp c hc).1
      omega
  | succ n ih =>
    intro p hn hp
    rcases L p hp with h | h
    · exact ⟨wd p, by rw [A.C.at_ p hp]; exact h, List.prefix_refl _⟩
    · obtain ⟨c, hc⟩ : ∃ c, c ∈ (nd p).cl.kids := by
        cases hk : (nd p).cl.kids with
        | nil => rw [hk] at h; simp at h; omega
        | cons c l => exact ⟨c, by simp⟩
      have h1 := A.T.I.kid_longer hp hc
      have h2 := A.T.I.len c (A.T.I.kid p hp c hc).1
      obtain ⟨k, hk, hpre⟩ := ih c (by omega) (A.T.I.kid p hp c hc).1
      exact ⟨k, hk, (A.T.I.kid_pre hp hc).trans hpre⟩

theorem no_key (A : TA w t mp rp M O N nd wd S sh) {K : List UInt8} (h : ∀ r, N r → ¬ K <+: wd r) : ∀ k, M k ≠ none → ¬ K <+: k := by
  intro k hk hpre
  obtain ⟨p, hp, e⟩ := A.C.of k hk
  exact h p hp (by rw [e]; exact hpre)
end

theorem matchSub_any (w : World) (t lf : Nat) (hlf : 1 ≤ lf) (mp : Int) (rp : List UInt8) (M : List UInt8 → Option Int) (O : Nat → Prop) (T : TrieAt w t lf mp rp M O) (kb kc : Nat) (K : List UInt8) (hK : KS w kb 0 K) (hkc : K.length ≤ kc) (hk1 : K.length ≤ 10) :
    Calls Try.prog 42 #[ptr t, .slice (some ⟨kb, 0, none⟩) K.length kc] w (fun e w' => ∃ b, RetD (.bool b) w e w' ∧ (b = true ↔ ∃ k, M k ≠ none ∧ K <+: k)) := by
  obtain ⟨N, nd, wd, S, sh, A, L⟩ := T
  have HF := Lib.hid (find_any w A.T kb 0 kc K hK hkc hk1)
  have HA := Lib.hid A
  have HL := Lib.hid L
  clear A L hK
  go_enter Try.func42, Try.ntmps42
  go_wp2_with fail
  refine HF.out.mono ?_
  rintro e w' ⟨P, q, fnd, lo, rfl, ⟨n, rfl⟩, hno, hyes⟩
  have hb : fnd = true ↔ ∃ k, M k ≠ none ∧ K <+: k := by
    cases fnd with
    | false =>
      simp only [Bool.false_eq_true, false_iff]
      rintro ⟨k, hk, hp⟩
      exact no_key HA.out (hno rfl) k hk hp
    | true =>
      simp only [true_iff]
      obtain ⟨hN, _, _, sb, o', m', rest, _, hw, _⟩ := hyes rfl
      obtain ⟨k, hk, hp⟩ := has_key HA.out hlf HL.out _ q (Nat.le_refl _) hN
      exact ⟨k, hk, (by rw [hw]; exact List.prefix_append _ _ : K <+: wd q).trans hp⟩
  have HB := Lib.hid hb
  clear hno hyes hb
  go_wp2_with fail
  go_ret
  exact ⟨fnd, retD _ rfl rfl, HB.out⟩

end Go.Proofs.Ytmdbnjepajifpaa

/- A word made into a key; what stands when new blocks are laid. -/
namespace Go.Proofs.Ytmdbnjepajifpaa
open Go.RowKit

def keyOf (s : ByteArray) : List UInt8 := s.data.toList
theorem keyOf_len (s : ByteArray) : (keyOf s).length = s.size := by unfold keyOf; rw [Array.length_toList]; rfl
theorem keyOf_inj {s u : ByteArray} (h : keyOf s = keyOf u) : s = u := by
  unfold keyOf at h
  cases s; cases u
  congr 1
  exact Array.toList_inj.1 h

/-- The world behind a conversion. -/
def convW (w : World) (s : ByteArray) : World := w.drew.alloc (.cells (bytesRow s (grownCap w s.size 0 5)) 5 ((bytesRow s (grownCap w s.size 0 5)).size, (bytesRow s (grownCap w s.size 0 5)).size + 1))

theorem conv_run (w : World) (s : ByteArray) : (convert 9 53 (.string s)).run Try.prog w = .ok (.slice (some ⟨w.heap.size, 0, none⟩) s.size (grownCap w s.size 0 5)) (convW w s) :=
  run_bytes_of_string w 9 53 5 s Try.underlying9 Try.underlying53 Try.underlying5

theorem conv_size (w : World) (s : ByteArray) : (convW w s).heap.size = w.heap.size + 1 := by simp [convW]
theorem conv_tch (w : World) (s : ByteArray) (T : Nat → Prop) : Tch w (convW w s) T := ((Tch.refl w T).drw).alloc _
theorem conv_key (w : World) (s : ByteArray) : KeyAt (convW w s) w.heap.size (grownCap w s.size 0 5) (keyOf s) := by
  have hge := grownCap_ge w s.size 0 5
  have hsz : (bytesRow s (grownCap w s.size 0 5)).size = grownCap w s.size 0 5 := by
    simp [bytesRow]
    have : s.size = s.data.size := rfl
    omega
  have hh : (convW w s).heap[w.heap.size]? = some (.cells (bytesRow s (grownCap w s.size 0 5)) 5 ((bytesRow s (grownCap w s.size 0 5)).size, (bytesRow s (grownCap w s.size 0 5)).size + 1)) := heap_new w.drew _
  refine ⟨fun i hi => ?_, by rw [keyOf_len]; exact hge, _, _, hh, by omega, fun i hi => ?_⟩
  · rw [keyOf_len] at hi
    have hi' : i < s.data.size := hi
    rw [Nat.zero_add, cell_of_block hh, bytesRow_at s _ i hi']
    unfold keyOf
    rw [List.getD_eq_getElem?_getD, Array.getElem?_toList, Array.getElem?_eq_getElem hi']
    rfl
  · simp only [World.frozen?, hh]
    simp
    omega

section
variable {w w1 : World} {t : Nat} {mp : Int} {rp : List UInt8} {M : List UInt8 → Option Int} {O : Nat → Prop}

theorem TA.later {N : Nat → Prop} {nd : Nat → Nd} {wd : Nat → List UInt8} {S : Nat → List UInt8} {sh : Nat → Nat} (A : TA w t mp rp M O N nd wd S sh) (hk : ∀ k, O k → w1.heap[k]? = w.heap[k]?) (hs : w.heap.size ≤ w1.heap.size) : TA w1 t mp rp M O N nd wd S sh :=
  ⟨⟨A.T.I, fun p hp => by
      obtain ⟨o1, o2, o3, o4⟩ := A.own p hp
      exact (A.T.H p hp).frame (hk _ o1) (hk _ o2) (hk _ o3) (hk _ o4), A.T.rn⟩, A.C, A.own, fun k h => Nat.lt_of_lt_of_le (A.lt k h) hs, A.mp, A.rp⟩
theorem TrieAt.later {lf : Nat} (T : TrieAt w t lf mp rp M O) (hk : ∀ k, O k → w1.heap[k]? = w.heap[k]?) (hs : w.heap.size ≤ w1.heap.size) : TrieAt w1 t lf mp rp M O := by
  obtain ⟨N, nd, wd, S, sh, A, L⟩ := T
  exact ⟨N, nd, wd, S, sh, A.later hk hs, L⟩
theorem Fresh.later (F : Fresh w t mp O) (hk : ∀ k, O k → w1.heap[k]? = w.heap[k]?) : Fresh w1 t mp O := by
  obtain ⟨l, a, cap, mc, h1, h2, h3⟩ := F
  exact ⟨l, a, cap, mc, (hk _ ((h3 _).2 (.inl rfl))).trans h1, h2.frame (hk _ ((h3 _).2 (.inr (.inl rfl)))) (hk _ ((h3 _).2 (.inr (.inr rfl)))), h3⟩
theorem GS.later {j : Nat} (G : GS w t mp j M O) (hk : ∀ k, O k → w1.heap[k]? = w.heap[k]?) (hs : w.heap.size ≤ w1.heap.size) : GS w1 t mp j M O := by
  obtain ⟨h, G⟩ := G
  refine ⟨fun k hk' => Nat.lt_of_lt_of_le (h k hk') hs, ?_⟩
  rcases G with ⟨h1, h2, F⟩ | ⟨h1, T⟩ | ⟨h1, rp, T⟩
  · exact .inl ⟨h1, h2, F.later hk⟩
  · exact .inr (.inl ⟨h1, T.later hk hs⟩)
  · exact .inr (.inr ⟨h1, rp, T.later hk hs⟩)
theorem GS.tch {j : Nat} (G : GS w t mp j M O) (h : Tch w w1 (fun _ => False)) : GS w1 t mp j M O := G.later (fun k hk => h.keep k (G.1 k hk) (fun h => h)) h.size
theorem TrieAt.tch {lf : Nat} (T : TrieAt w t lf mp rp M O) (h : Tch w w1 (fun _ => False)) : TrieAt w1 t lf mp rp M O := T.later (fun k hk => h.keep k (T.lt k hk) (fun h => h)) h.size
end

/-- The words that are put. -/
structure WS (ws : List ByteArray) : Prop where
  two : 2 ≤ ws.length
  first : ws[0]? = some ⟨#[65]⟩
  second : ws[1]? = some ⟨#[90]⟩
  len : ∀ s, s ∈ ws → 0 < s.size ∧ s.size ≤ 10

/-- A row of words in memory. -/
def Row (w : World) (v : Value) (ws : List ByteArray) : Prop :=
  (v = .slice none 0 0 ∧ ws = []) ∨ ∃ g c, v = .slice (some ⟨g, 0, none⟩) ws.length c ∧ g < w.heap.size ∧ ws.length ≤ c ∧ ∀ i s, ws[i]? = some s → w.cell? ⟨g, i, none⟩ = some (.string s)
theorem Row.tch {w w1 : World} {v : Value} {ws : List ByteArray} (h : Row w v ws) {T : Nat → Prop} (hT : Tch w w1 T) (hd : ∀ g, v.ownBlock = some g → ¬ T g) : Row w1 v ws := by
  rcases h with h | ⟨g, c, rfl, h1, h2, h3⟩
  · exact .inl h
  · refine .inr ⟨g, c, rfl, Nat.lt_of_lt_of_le h1 hT.size, h2, fun i s hs => ?_⟩
    rw [World.cell?_of_block (hT.keep g h1 (hd g (by simp [Value.ownBlock])))]
    exact h3 i s hs

/-- The map after words were put: 'over': each replaces what was there. -/
def stepM (over : Bool) (M : List UInt8 → Option Int) (K : List UInt8) (i : Int) : List UInt8 → Option Int := if over || (M K).isNone then setM M K (some i) else M
def mapOf (over : Bool) (ws : List ByteArray) : Nat → List UInt8 → Option Int
  | 0 => fun _ => none
  | j + 1 => match ws[j]? with
    | some s => stepM over (mapOf over ws j) (keyOf s) j
    | none => mapOf over ws j
theorem mapOf_succ {over : Bool} {ws : List ByteArray} {j : Nat} {s : ByteArray} (h : ws[j]? = some s) : mapOf over ws (j + 1) = stepM over (mapOf over ws j) (keyOf s) j := by
  simp [mapOf, h]

/-- What a round leaves: the trie with one word more. -/
theorem grow_round {w w' : World} {B t j : Nat} {mp : Int} {over : Bool} {ws : List ByteArray} {O : Nat → Prop} {s : ByteArray} {e : Ending} (hs : ws[j]? = some s) (hB : ∀ k, O k → B ≤ k) (hBw : B ≤ w.heap.size)
    (h : PutG (convW w s) t mp j (mapOf over ws j) O (keyOf s) j over w.heap.size e w') :
    e = .returned (.bool (over || (mapOf over ws j (keyOf s)).isNone)) ∧ ∃ O', GS w' t mp (j + 1) (mapOf over ws (j + 1)) O' ∧ (∀ k, O' k → B ≤ k) ∧ Tch w w' (fun k => B ≤ k) := by
  obtain ⟨h1, O', h2, h3, h4⟩ := h
  refine ⟨h1, O', by rw [mapOf_succ hs]; exact h2, fun k hk => ?_, (conv_tch w s _).trans h4 (fun b hb h => hB b h)⟩
  rcases h3 k hk with h | h | h
  · exact hB k h
  · omega
  · have := h.1
    rw [conv_size] at this
    omega

end Go.Proofs.Ytmdbnjepajifpaa

/- impl.empty makes a trie without keys. -/
namespace Go.Proofs.Ytmdbnjepajifpaa
open Go.RowKit

theorem opt1_make (w : World) (n : Int) : Calls Try.prog 60 #[.int .i64 n] w (fun e w' => e = .returned (.func (.func 74) #[] #[.pointer (some ⟨w.heap.size, 0, none⟩)]) ∧ w' = w.alloc (.cells #[.int .i64 n] 3)) := by
  go_enter Try.func60, Try.ntmps60
  go_wp2_with fail
  go_ret
  exact ⟨rfl, rfl⟩
theorem opt2_make (w : World) (n : Int) : Calls Try.prog 61 #[.int .i64 n] w (fun e w' => e = .returned (.func (.func 75) #[] #[.pointer (some ⟨w.heap.size, 0, none⟩)]) ∧ w' = w.alloc (.cells #[.int .i64 n] 3)) := by
  go_enter Try.func61, Try.ntmps61
  go_wp2_with fail
  go_ret
  exact ⟨rfl, rfl⟩

theorem opt1_run (w : World) (n : Int) (t b : Nat) (u : Value) (hb : w.cell? ⟨b, 0, none⟩ = some (.int .i64 n)) (ht : w.cell? ⟨t, 2, none⟩ = some u) (hf : w.frozen? ⟨t, 2, none⟩ = false) :
    Calls Try.prog 74 #[ptr t, ptr b] w (fun e w' => e = .returned (.tuple #[]) ∧ w' = w.setCell ⟨t, 2, none⟩ (.int .i64 n)) := by
  go_enter Try.func74, Try.ntmps74
  go_wp2_with fail
  refine bodyPost_end (results_none rfl _ _ _) rfl ?_
  exact ⟨rfl, rfl⟩
theorem opt2_run (w : World) (n : Int) (t b : Nat) (u : Value) (hb : w.cell? ⟨b, 0, none⟩ = some (.int .i64 n)) (ht : w.cell? ⟨t, 3, none⟩ = some u) (hf : w.frozen? ⟨t, 3, none⟩ = false) :
    Calls Try.prog 75 #[ptr t, ptr b] w (fun e w' => e = .returned (.tuple #[]) ∧ w' = w.setCell ⟨t, 3, none⟩ (.int .i64 n)) := by
  go_enter Try.func75, Try.ntmps75
  go_wp2_with fail
  refine bodyPost_end (results_none rfl _ _ _) rfl ?_
  exact ⟨rfl, rfl⟩

theorem opts_post {w W2 W3 : World} {n m : Nat} (hm9 : m ≤ 12) (hT : Tch w W2 (fun _ => False)) (hs : W2.heap.size = w.heap.size + 1) (e2 : W2.heap[w.heap.size]? = some (.cells #[.slice none 0 0, .nilIface, .int .i64 n, .int .i64 m, .nilIface] 82 (0, 0)))
    (h3 : W3 = (W2.alloc (.cells (arrV (List.replicate m none)) 50)).alloc (.cells #[.slice (some ⟨W2.heap.size, 0, none⟩) 0 m] 105)) :
    FreshP n m m w (.returned (.pointer (some ⟨w.heap.size, 0, none⟩))) (W3.setCell ⟨w.heap.size, 4, none⟩ (.iface 102 (.pointer (some ⟨W2.heap.size + 1, 0, none⟩)))) := by
  have ha : W3.heap[W2.heap.size]? = some (.cells (arrV (List.replicate m none)) 50 (0, 0)) := by rw [h3]; exact heap_al (heap_new W2 _)
  have hl : W3.heap[W2.heap.size + 1]? = some (.cells #[.slice (some ⟨W2.heap.size, 0, none⟩) 0 m] 105 (0, 0)) := by
    rw [h3]
    have := heap_new (W2.alloc (.cells (arrV (List.replicate m none)) 50)) (.cells #[.slice (some ⟨W2.heap.size, 0, none⟩) 0 m] 105)
    rw [World.size_alloc] at this
    exact this
  have e3 : W3.heap[w.heap.size]? = some (.cells #[.slice none 0 0, .nilIface, .int .i64 n, .int .i64 m, .nilIface] 82 (0, 0)) := by rw [h3]; exact heap_al (heap_al e2)
  have hT3 : Tch w W3 (fun _ => False) := by rw [h3]; exact (hT.alloc _).alloc _
  refine ⟨w.heap.size, W2.heap.size + 1, W2.heap.size, rfl, Nat.le_refl _, by omega, by omega, ?_, ⟨?_, by simp, hm9, arrV (List.replicate m none), ?_, by simp [arrV], fun i c h => by simp at h⟩, hT3.setCell _ _ (fun h => by have h : w.heap.size < w.heap.size := h; omega)⟩
  · rw [heap_set e3]; rfl
  · rw [heap_set_ne (by omega)]; exact hl
  · rw [heap_set_ne (by omega)]; exact ha

set_option maxHeartbeats 3200000 in
theorem newTrie_opts (w : World) (n m g c b1 b2 : Nat) (hn : 1 ≤ n) (hm : 1 ≤ m) (hm9 : m ≤ 12) (hg : g < w.heap.size) (hb1 : b1 < w.heap.size) (hb2 : b2 < w.heap.size)
    (h0 : w.cell? ⟨g, 0, none⟩ = some (.func (.func 74) #[] #[.pointer (some ⟨b1, 0, none⟩)])) (h1 : w.cell? ⟨g, 1, none⟩ = some (.func (.func 75) #[] #[.pointer (some ⟨b2, 0, none⟩)]))
    (c1 : w.cell? ⟨b1, 0, none⟩ = some (.int .i64 n)) (c2 : w.cell? ⟨b2, 0, none⟩ = some (.int .i64 m)) :
    Calls Try.prog 59 #[.slice (some ⟨g, 0, none⟩) 2 c] w (FreshP n m m w) := by
  go_enter Try.func59, Try.ntmps59
  go_wp2_with fail
  refine wp_loop_rounds 3 ?_
  rw [rounds_succ]
  go_wp2_with fail
  have e0 : (w.alloc (.cells #[.slice none 0 0, .nilIface, .int .i64 0, .int .i64 0, .nilIface] 82)).heap[w.heap.size]? = some (.cells #[.slice none 0 0, .nilIface, .int .i64 0, .int .i64 0, .nilIface] 82 (0, 0)) := heap_new w _
  have al : ∀ (k i : Nat) (o : Obj), k < w.heap.size → (w.alloc o).cell? ⟨k, i, none⟩ = w.cell? ⟨k, i, none⟩ := fun k i o hk => by unfold World.cell?; rw [Below.heap_alloc _ _ _ hk]
  refine (opt1_run _ n w.heap.size b1 _ ((al _ _ _ hb1).trans c1) (by rw [cell_of_block e0]; rfl) (free_of_block e0 2)).mono ?_
  have e1 := heap_set (i := 2) e0 (.int .i64 (n : Int))
  have ne : ∀ k, k < w.heap.size → k ≠ w.heap.size := fun k h => by omega
  have g1 : ((w.alloc (.cells #[.slice none 0 0, .nilIface, .int .i64 0, .int .i64 0, .nilIface] 82)).setCell ⟨w.heap.size, 2, none⟩ (.int .i64 (n : Int))).cell? ⟨g, 1, none⟩ = some (.func (.func 75) #[] #[.pointer (some ⟨b2, 0, none⟩)]) := by
    rw [World.cell?_of_block (heap_set_ne (ne g hg) _), al _ _ _ hg]; exact h1
  have g2 : ((w.alloc (.cells #[.slice none 0 0, .nilIface, .int .i64 0, .int .i64 0, .nilIface] 82)).setCell ⟨w.heap.size, 2, none⟩ (.int .i64 (n : Int))).cell? ⟨b2, 0, none⟩ = some (.int .i64 m) := by
    rw [World.cell?_of_block (heap_set_ne (ne b2 hb2) _), al _ _ _ hb2]; exact c2
  have hT1 : Tch w ((w.alloc (.cells #[.slice none 0 0, .nilIface, .int .i64 0, .int .i64 0, .nilIface] 82)).setCell ⟨w.heap.size, 2, none⟩ (.int .i64 (n : Int))) (fun _ => False) :=
    ((Tch.refl w _).alloc _).setCell _ _ (fun h => by have h : w.heap.size < w.heap.size := h; omega)
  have hs1 : ((w.alloc (.cells #[.slice none 0 0, .nilIface, .int .i64 0, .int .i64 0, .nilIface] 82)).setCell ⟨w.heap.size, 2, none⟩ (.int .i64 (n : Int))).heap.size = w.heap.size + 1 := by simp
  rintro e w' ⟨rfl, rfl⟩
  generalize (w.alloc (.cells #[.slice none 0 0, .nilIface, .int .i64 0, .int .i64 0, .nilIface] 82)).setCell ⟨w.heap.size, 2, none⟩ (.int .i64 (n : Int)) = W1 at *
  go_wp2_with fail
  rw [rounds_succ]
  go_wp2_with fail
  refine (opt2_run _ m w.heap.size b2 _ g2 (by rw [cell_of_block e1]; rfl) (free_of_block e1 3)).mono ?_
  have e2 := heap_set (i := 3) e1 (.int .i64 (m : Int))
  have hT2 : Tch w (W1.setCell ⟨w.heap.size, 3, none⟩ (.int .i64 (m : Int))) (fun _ => False) := hT1.setCell _ _ (fun h => by have h : w.heap.size < w.heap.size := h; omega)
  have hs2 : (W1.setCell ⟨w.heap.size, 3, none⟩ (.int .i64 (m : Int))).heap.size = w.heap.size + 1 := by simpa using hs1
  rintro e w' ⟨rfl, rfl⟩
  generalize W1.setCell ⟨w.heap.size, 3, none⟩ (.int .i64 (m : Int)) = W2 at *
  have k2 : W2.cell? ⟨w.heap.size, 2, none⟩ = some (.int .i64 n) := by rw [cell_of_block e2]; rfl
  have k3 : W2.cell? ⟨w.heap.size, 3, none⟩ = some (.int .i64 m) := by rw [cell_of_block e2]; rfl
  have k4 : W2.cell? ⟨w.heap.size, 4, none⟩ = some .nilIface := by rw [cell_of_block e2]; rfl
  have kf := free_of_block e2 4
  have q1 : ¬ (n : Int) ≤ 0 := by omega
  have q2 : ¬ (m : Int) ≤ 0 := by omega
  have HT := Lib.hid (⟨hT2, hs2, e2⟩ : _ ∧ _ ∧ _)
  clear hT1 hs1 hT2 hs2 e0 e1 e2 g1 g2 al ne
  go_wp2_with fail
  rw [rounds_succ]
  go_wp2_with fail
  refine (newSparse_any _ m (by omega)).mono ?_
  rintro e w' ⟨rfl, rfl⟩
  have hW3 : ∃ W3, (W2.alloc (.cells (arrV (List.replicate m none)) 50)).alloc (.cells #[.slice (some ⟨W2.heap.size, 0, none⟩) 0 m] 105) = W3 := ⟨_, rfl⟩
  obtain ⟨W3, hW3⟩ := hW3
  rw [hW3]
  have e3 : W3.heap[w.heap.size]? = some (.cells #[.slice none 0 0, .nilIface, .int .i64 n, .int .i64 m, .nilIface] 82 (0, 0)) := by rw [← hW3]; exact heap_al (heap_al HT.out.2.2)
  have k4' : W3.cell? ⟨w.heap.size, 4, none⟩ = some .nilIface := by rw [cell_of_block e3]; rfl
  have kf' := free_of_block e3 4
  have HW := Lib.hid hW3.symm
  clear hW3 e3 k2 k3 k4 kf
  go_wp2_with fail
  go_ret
  exact opts_post hm9 HT.out.1 HT.out.2.1 HT.out.2.2 HW.out

/-- impl.empty. -/
def EmptyP (n : Nat) (w : World) (e : Ending) (w' : World) : Prop :=
  ∃ t O, e = .returned (ptr t) ∧ Fresh w' t n O ∧ (∀ k, O k → w.heap.size ≤ k ∧ k < w'.heap.size) ∧ Tch w w' (fun _ => False)

set_option maxHeartbeats 1600000 in
theorem empty_any (w : World) (n m : Nat) (hn : 1 ≤ n) (hm : 1 ≤ m) (hm9 : m ≤ 12) : Calls Try.prog 38 #[.int .i64 n, .int .i64 m] w (EmptyP n w) := by
  go_enter Try.func38, Try.ntmps38
  go_wp2_with fail
  refine (opt1_make _ _).mono ?_
  rintro e w' ⟨rfl, rfl⟩
  go_wp2_with fail
  refine (opt2_make _ _).mono ?_
  rintro e w' ⟨rfl, rfl⟩
  go_wp2_with fail
  have b1 : ((w.alloc (.cells #[.int .i64 n] 3)).alloc (.cells #[.int .i64 m] 3)).heap[w.heap.size]? = some (.cells #[.int .i64 n] 3 (0, 0)) := heap_al (heap_new w _)
  have b2 : ((w.alloc (.cells #[.int .i64 n] 3)).alloc (.cells #[.int .i64 m] 3)).heap[w.heap.size + 1]? = some (.cells #[.int .i64 m] 3 (0, 0)) := by
    have := heap_new (w.alloc (.cells #[.int .i64 n] 3)) (.cells #[.int .i64 m] 3)
    rw [World.size_alloc] at this
    exact this
  have hs : ((w.alloc (.cells #[.int .i64 n] 3)).alloc (.cells #[.int .i64 m] 3)).heap.size = w.heap.size + 1 + 1 := by simp
  have hT : Tch w ((w.alloc (.cells #[.int .i64 n] 3)).alloc (.cells #[.int .i64 m] 3)) (fun _ => False) := ((Tch.refl w _).alloc _).alloc _
  generalize (w.alloc (.cells #[.int .i64 n] 3)).alloc (.cells #[.int .i64 m] 3) = W1 at *
  have b3 := heap_new W1 (.cells #[.func (.func 74) #[] #[.pointer (some ⟨w.heap.size, 0, none⟩)], .func (.func 75) #[] #[.pointer (some ⟨w.heap.size + 1, 0, none⟩)]] 73)
  rw [hs] at b3
  refine (newTrie_opts _ n m (w.heap.size + 1 + 1) 2 w.heap.size (w.heap.size + 1) hn hm hm9 (by simp; omega) (by simp; omega) (by simp; omega) (by rw [cell_of_block b3]; rfl) (by rw [cell_of_block b3]; rfl) (by rw [cell_of_block (heap_al b1)]; rfl) (by rw [cell_of_block (heap_al b2)]; rfl)).mono ?_
  rintro e w' ⟨t, l, a, rfl, h1, h2, h3, h4, h5, h6⟩
  rw [World.size_alloc] at h1 h2 h3
  have HP : Hid (EmptyP n w (.returned (ptr t)) w') := (⟨t, fun k => k = t ∨ k = l ∨ k = a, rfl, ⟨l, a, m, m, h4, h5, fun k => Iff.rfl⟩, fun k hk => by
    have c1 := lt_of_heap h4
    have c2 := h5.lt
    have c3 : l < w'.heap.size := c2.1
    have c4 : a < w'.heap.size := c2.2
    rcases hk with rfl | rfl | rfl <;> exact ⟨by omega, by omega⟩, (hT.alloc _).trans h6 (fun _ _ h => h)⟩ : EmptyP n w (.returned (ptr t)) w')
  clear h1 h2 h3 h4 h5 h6 hT hs b1 b2 b3
  go_wp2_with fail
  go_ret
  exact HP.out

end Go.Proofs.Ytmdbnjepajifpaa

/- impl.grow, impl.item, impl.Has, impl.Latest. -/
namespace Go.Proofs.Ytmdbnjepajifpaa
open Go.RowKit

/-- A trie into which the words were put. -/
def Grown (w : World) (over : Bool) (ws : List ByteArray) (t : Nat) (w' : World) : Prop :=
  ∃ O rp, TrieAt w' t 2 10 rp (mapOf over ws ws.length) O ∧ (∀ k, O k → w.heap.size ≤ k) ∧ Tch w w' (fun _ => False)

def GrowI (w : World) (n : Nat) (over : Bool) (ws : List ByteArray) (t j : Nat) (wr : World) : Prop :=
  j ≤ ws.length ∧ ∃ O, GS wr t n j (mapOf over ws j) O ∧ (∀ k, O k → w.heap.size ≤ k) ∧ Tch w wr (fun _ => False)

theorem EmptyP.start {w w' : World} {n : Nat} {over : Bool} {ws : List ByteArray} {t : Nat} {O : Nat → Prop} (F : Fresh w' t n O) (hO : ∀ k, O k → w.heap.size ≤ k ∧ k < w'.heap.size) (hT : Tch w w' (fun _ => False)) : GrowI w n over ws t 0 w' :=
  ⟨Nat.zero_le _, O, ⟨fun k hk => (hO k hk).2, .inl ⟨rfl, rfl, F⟩⟩, fun k hk => (hO k hk).1, hT⟩

theorem GrowI.round {w w' wr : World} {n : Nat} {over : Bool} {ws : List ByteArray} {t j : Nat} {s : ByteArray} {e : Ending} {O : Nat → Prop} (hs : ws[j]? = some s) (hO : ∀ k, O k → w.heap.size ≤ k) (hT : Tch w wr (fun _ => False))
    (h : PutG (convW wr s) t n j (mapOf over ws j) O (keyOf s) j over wr.heap.size e w') : e = .returned (.bool (over || (mapOf over ws j (keyOf s)).isNone)) ∧ GrowI w n over ws t (j + 1) w' := by
  obtain ⟨h1, O', h2, h3, h4⟩ := grow_round hs hO hT.size h
  have := (List.getElem?_eq_some_iff.1 hs).1
  exact ⟨h1, by omega, O', h2, h3, hT.trans h4 (fun b hb h => by omega)⟩

theorem GrowI.done {w wr : World} {n : Nat} {over : Bool} {ws : List ByteArray} {t : Nat} (W : WS ws) (h : GrowI w n over ws t ws.length wr) : Grown w over ws t wr := by
  obtain ⟨_, O, ⟨_, G⟩, hO, hT⟩ := h
  have := W.two
  rcases G with ⟨h1, _⟩ | ⟨h1, _⟩ | ⟨_, rp, T⟩
  · omega
  · omega
  · exact ⟨O, rp, T, hO, hT⟩

/-- The call of Insert or Set in a round. -/
theorem round_put {w wr : World} {n : Nat} {over : Bool} {ws : List ByteArray} {t j : Nat} {s : ByteArray} (W : WS ws) (_hn : 1 ≤ n) (hs : ws[j]? = some s) (h : GrowI w n over ws t j wr) :
    ∃ O, (∀ k, O k → w.heap.size ≤ k) ∧ Tch w wr (fun _ => False) ∧ GS (convW wr s) t n j (mapOf over ws j) O ∧ KeyAt (convW wr s) wr.heap.size (grownCap wr s.size 0 5) (keyOf s) ∧ ¬ O wr.heap.size ∧ 0 < (keyOf s).length ∧ (keyOf s).length ≤ 10 ∧ (j = 0 → keyOf s = [65]) ∧ (j = 1 → keyOf s = [90]) := by
  obtain ⟨h1, O, G, hO, hT⟩ := h
  have hl := W.len s (List.mem_of_getElem? hs)
  refine ⟨O, hO, hT, G.tch (conv_tch _ _ _), conv_key wr s, fun h => by have := G.1 _ h; omega, by rw [keyOf_len]; exact hl.1, by rw [keyOf_len]; exact hl.2, ?_, ?_⟩
  · rintro rfl
    have := W.first
    rw [hs] at this
    injection this with this
    rw [this]; rfl
  · rintro rfl
    have := W.second
    rw [hs] at this
    injection this with this
    rw [this]; rfl

theorem Row.slice {w : World} {v : Value} {ws : List ByteArray} (h : Row w v ws) (hne : ws ≠ []) : ∃ g c, v = .slice (some ⟨g, 0, none⟩) ws.length c ∧ g < w.heap.size ∧ ws.length ≤ c ∧ ∀ i s, ws[i]? = some s → w.cell? ⟨g, i, none⟩ = some (.string s) := by
  rcases h with ⟨_, h⟩ | h
  · exact absurd h hne
  · exact h

set_option maxHeartbeats 3200000 in
theorem grow_any (w : World) (n m : Nat) (hn : 1 ≤ n) (hm : 1 ≤ m) (hm9 : m ≤ 12) (v : Value) (ws : List ByteArray) (W : WS ws) (R : Row w v ws) (hmax : ws.length ≤ 1000000000) :
    Calls Try.prog 41 #[.int .i64 n, .int .i64 m, v] w (fun e w' => ∃ t, e = .returned (ptr t) ∧ Grown w false ws t w') := by
  have hne : ws ≠ [] := by rintro rfl; have := W.two; simp at this
  obtain ⟨g, c, rfl, hg, hc, hcell⟩ := R.slice hne
  have HCELL := Lib.hid hcell
  have HW := Lib.hid W
  have HE := Lib.hid (empty_any w n m hn hm hm9)
  have hcv := conv_run
  clear R hcell W hne
  go_enter Try.func41, Try.ntmps41
  go_wp2_with fail
  refine HE.out.mono ?_
  rintro e w1 ⟨t, O, rfl, F, hO, hT⟩
  have HG0 : Hid (GrowI w n false ws t 0 w1) := EmptyP.start F hO hT
  clear F hO hT
  go_wp2_with fail
  go_loopw [15] (fun i wr => ∃ j : Nat, i = .int .i64 (j : Int) ∧ Hid (GrowI w n false ws t j wr)) (fun i _ => ws.length - (intOf i).toNat)
  case atStart => exact ⟨0, rfl, HG0⟩
  case round =>
    obtain ⟨j, rfl, HG⟩ := hrel
    by_cases hj : j < ws.length
    · have hj' : (j : Int) < (ws.length : Int) := by omega
      obtain ⟨s, hs⟩ : ∃ s, ws[j]? = some s := ⟨_, List.getElem?_eq_getElem hj⟩
      have hc0 : wr.cell? ⟨g, j, none⟩ = some (.string s) := by
        obtain ⟨_, O, _, _, hT⟩ := HG.out
        rw [World.cell?_of_block (hT.keep g hg (fun h => h))]
        exact HCELL.out j s hs
      obtain ⟨O, hO, hT, G, hK, hkb, hk0, hk1, h0, h1⟩ := round_put HW.out hn hs HG.out
      have hin := insert_g _ t n j _ O G _ _ _ hK hkb hk0 hk1 (by omega) h0 h1 j
      rw [keyOf_len] at hin
      have HIN := Lib.hid hin
      have HS := Lib.hid hs
      have HO := Lib.hid (⟨hO, hT⟩ : _ ∧ _)
      clear hin hs G hK hkb h0 h1 hO hT
      go_wp2_with fail
      refine HIN.out.mono ?_
      intro e w2 hP
      have hr := GrowI.round HS.out HO.out.1 HO.out.2 hP
      obtain ⟨rfl, hr⟩ := hr
      have HR := Lib.hid hr
      clear hr hP
      go_wp2_with fail
      go_roundw
      case rel => exact ⟨j + 1, by go_num, HR⟩
      case measure => simp [intOf]; omega
    · have hj' : ¬ (j : Int) < (ws.length : Int) := by omega
      have hjl : j = ws.length := by have := HG.out.1; omega
      subst hjl
      go_wp2_with fail
      go_ret
      exact ⟨t, rfl, GrowI.done HW.out HG.out⟩

end Go.Proofs.Ytmdbnjepajifpaa

/- impl.Has. -/
namespace Go.Proofs.Ytmdbnjepajifpaa
open Go.RowKit

/-- impl.Has. -/
theorem has_any (w : World) (n m : Nat) (hn : 1 ≤ n) (hm : 1 ≤ m) (hm9 : m ≤ 12) (v : Value) (ws : List ByteArray) (W : WS ws) (R : Row w v ws) (hmax : ws.length ≤ 1000000000) (s : ByteArray) (hs : s.size ≤ 10) :
    Calls Try.prog 18 #[.int .i64 n, .int .i64 m, v, .string s] w (fun e w' => ∃ b, e = .returned (.bool b) ∧ (b = true ↔ ∃ k, mapOf false ws ws.length k ≠ none ∧ keyOf s <+: k) ∧ Tch w w' (fun _ => False)) := by
  have hcv := conv_run
  have HG := Lib.hid (grow_any w n m hn hm hm9 v ws W R hmax)
  clear W R
  go_enter Try.func18, Try.ntmps18
  go_wp2_with fail
  refine HG.out.mono ?_
  rintro e w1 ⟨t, rfl, O, rp, T, hO, hT⟩
  have hk := conv_key w1 s
  have hms := matchSub_any (convW w1 s) t 2 (by omega) 10 rp _ O (T.tch (conv_tch _ _ _)) _ _ (keyOf s) hk.1 hk.2.1 (by rw [keyOf_len]; exact hs)
  rw [keyOf_len] at hms
  have HMS := Lib.hid hms
  have HT := Lib.hid hT
  clear hms hk T hO hT
  go_wp2_with fail
  refine HMS.out.mono ?_
  rintro e w2 ⟨b, ⟨rfl, n2, rfl⟩, hb⟩
  have HB := Lib.hid hb
  clear hb
  go_wp2_with fail
  go_ret
  exact ⟨b, rfl, HB.out, (HT.out.trans (conv_tch w1 s _) (fun _ _ h => h)).drn n2⟩

end Go.Proofs.Ytmdbnjepajifpaa

/- What the laws' walks share. -/
namespace Go.Proofs.Ytmdbnjepajifpaa
open Go.RowKit Go.Proofs.YtmdbnjepajifpaaW.PrintWords Go.Proofs.YtmdbnjepajifpaaW.PrintLast Go.Proofs.YtmdbnjepajifpaaW.PrintMore

theorem key_eq (s u : ByteArray) : (s.toList = u.toList) ↔ keyOf s = keyOf u := by rw [ByteArray.toList_eq, ByteArray.toList_eq]; rfl

/-- A row that was made, as a row of words. -/
theorem row_of {w : World} {base : Nat} {ok : Nat → Prop} {v : Value} {ws : List ByteArray} (h : Kd.R Kd.string 9 w base ok v ws) : Row w v ws := by
  obtain ⟨A, c, rfl, hl, hc⟩ := Kd.R_reads h
  obtain ⟨inner, ho⟩ := Kd.R_own h
  rcases ho.2 with ⟨h1, h2⟩ | ⟨g, cap, cur, h1, hg, hh, hr⟩
  · left
    injection h1 with e1 e2 e3
    have : ws = [] := List.length_eq_zero_iff.1 e2
    rw [e1, e2, e3, this]
    exact ⟨rfl, rfl⟩
  · right
    injection h1 with e1 e2 e3
    subst e1
    refine ⟨g, c, rfl, lt_of_heap hh, hl, fun i s hi => ?_⟩
    have hlt := (List.getElem?_eq_some_iff.1 hi).1
    obtain ⟨ad, e, hcell⟩ := Kd.at_string hc (i : Int) (by omega) (by omega)
    injection e with e
    subst e
    have h2 : (⟨g, 0, none⟩ : Addr).add i = ⟨g, i, none⟩ := by simp [Addr.add]; exact fun h => h.symm
    rw [Int.toNat_natCast, h2] at hcell
    rw [hcell]
    unfold rdOf
    rw [Int.toNat_natCast, List.getD_eq_getElem?_getD, hi]
    rfl

theorem has_AZ : ∃ k, mapOf false [⟨#[65]⟩, ⟨#[90]⟩] 2 k ≠ none ∧ keyOf ⟨#[65]⟩ <+: k := ⟨[65], by decide, by decide⟩

theorem ws_AZ : WS [⟨#[65]⟩, ⟨#[90]⟩] := ⟨by simp, rfl, rfl, fun s hs => by
  simp only [List.mem_cons, List.not_mem_nil, or_false] at hs
  rcases hs with rfl | rfl <;> exact ⟨by decide, by decide⟩⟩

theorem Row.tchF {w w1 : World} {v : Value} {ws : List ByteArray} (h : Row w v ws) (hT : Tch w w1 (fun _ => False)) : Row w1 v ws := h.tch hT (fun _ _ h => h)
theorem tch_below {w w1 : World} (h : Below w.heap.size w w1) : Tch w w1 (fun _ => False) := ⟨h.os, h.tape, h.output, h.size, fun k hk _ => h.block k hk⟩

/-- impl.Has(9, 9, A Z, A). -/
theorem has_true (w : World) (g : Nat) (hg : w.heap[g]? = some (.cells #[.string ⟨#[65]⟩, .string ⟨#[90]⟩] 9 (0, 0))) :
    Calls Try.prog 18 #[.int .i64 9, .int .i64 9, .slice (some ⟨g, 0, none⟩) 2 2, .string ⟨#[65]⟩] w (fun e w' => e = .returned (.bool true) ∧ Tch w w' (fun _ => False)) := by
  have hrow : Row w (.slice (some ⟨g, 0, none⟩) 2 2) [⟨#[65]⟩, ⟨#[90]⟩] := by
    refine .inr ⟨g, 2, rfl, lt_of_heap hg, by simp, fun i s hs => ?_⟩
    rw [cell_of_block hg]
    match i with
    | 0 => simp at hs; subst hs; rfl
    | 1 => simp at hs; subst hs; rfl
    | i + 2 => simp at hs
  have h := has_any w 9 9 (by omega) (by omega) (by omega) _ _ ws_AZ hrow (by simp) ⟨#[65]⟩ (by decide)
  refine h.mono ?_
  rintro e w' ⟨b, rfl, hb, hT⟩
  exact ⟨by rw [hb.2 has_AZ], hT⟩

end Go.Proofs.Ytmdbnjepajifpaa
