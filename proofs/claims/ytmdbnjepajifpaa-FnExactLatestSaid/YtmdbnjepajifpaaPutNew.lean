/- The first put into a trie without keys; a trie as it grows. -/
import Derived.Test.YtmdbnjepajifpaaPut
namespace Go.Proofs.Ytmdbnjepajifpaa
open Go.RowKit

def oneNd (kb kc : Nat) (K : List UInt8) (i : Option Int) (l a cap : Nat) (mp mc : Int) : Nd := { np := false, sb := kb, so := 0, sc := kc, px := K, it := i, mp := mp, mc := mc, cl := .sp l a cap [] }

/-- A trie without keys: just made. -/
def Fresh (w : World) (t : Nat) (mp : Int) (O : Nat → Prop) : Prop :=
  ∃ l a cap mc, w.heap[t]? = some (freshNd l a cap mp mc).obj ∧ CLraw w (.sp l a cap []) ∧ ∀ k, O k ↔ (k = t ∨ k = l ∨ k = a)

theorem one_inv (t kb kc : Nat) (K : List UInt8) (i : Option Int) (l a cap : Nat) (mp mc : Int) (hK : K.length ≤ 10) :
    Inv t (fun p => p = t) (fun _ => oneNd kb kc K i l a cap mp mc) (fun _ => K) (fun _ => K) (fun _ => 0) := by
  refine ⟨rfl, rfl, ?_, ?_, ?_, ?_, ?_, ?_, ?_, ?_, ?_, ?_⟩
  · intro p _ _; rfl
  · intro p _ c hc; simp [oneNd, CL.kids] at hc
  · intro p _ c d hc; simp [oneNd, CL.kids] at hc
  · intro p _; simp [oneNd, CL.kids]
  · intro p _; trivial
  · intro c h hne; exact absurd h hne
  · intro p q hp hq _; rw [hp, hq]
  · intro p q hp hq _; rw [hp, hq]
  · intro p _; exact hK
  · intro p _ _; exact ⟨List.prefix_refl _, by simp [oneNd]⟩

def PutN (w : World) (t : Nat) (mp : Int) (O : Nat → Prop) (K : List UInt8) (i : Int) (kb : Nat) (e : Ending) (w' : World) : Prop :=
  e = .returned (.bool true) ∧ TrieAt w' t 2 mp K (setM (fun _ => none) K (some i)) (fun k => O k ∨ k = kb) ∧ Tch w w' O

theorem one_post {w : World} {t : Nat} {mp : Int} {O : Nat → Prop} (F : Fresh w t mp O) {kb kc : Nat} {K : List UInt8} (hK : KeyAt w kb kc K) (hk1 : K.length ≤ 10) (i : Int) :
    PutN w t mp O K i kb (.returned (.bool true)) ((w.setCell ⟨t, 0, none⟩ (.slice (some ⟨kb, 0, none⟩) K.length kc)).setCell ⟨t, 1, none⟩ (.iface 3 (.int .i64 i))) := by
  obtain ⟨l, a, cap, mc, h1, h2, h3⟩ := F
  obtain ⟨k1, k2, C, fr, k3, k4, k5⟩ := hK
  have ht := lt_of_heap h1
  obtain ⟨CL1, c1⟩ := h2.l_ty
  obtain ⟨CA1, c2⟩ := h2.a_ty
  have nl : l ≠ t := ne_of_type c1 h1 (CL.sty_ne _).1
  have na : a ≠ t := ne_of_type c2 h1 (by decide)
  have nk : kb ≠ t := ne_of_type k3 h1 (by decide)
  have kp : ∀ k, k ≠ t → ((w.setCell ⟨t, 0, none⟩ (.slice (some ⟨kb, 0, none⟩) K.length kc)).setCell ⟨t, 1, none⟩ (.iface 3 (.int .i64 i))).heap[k]? = w.heap[k]? := fun k h => by rw [heap_set_ne h, heap_set_ne h]
  have hT : Tch w ((w.setCell ⟨t, 0, none⟩ (.slice (some ⟨kb, 0, none⟩) K.length kc)).setCell ⟨t, 1, none⟩ (.iface 3 (.int .i64 i))) O :=
    ((Tch.refl w O).setCell _ _ (fun _ => (h3 t).2 (.inl rfl))).setCell _ _ (fun _ => (h3 t).2 (.inl rfl))
  have ho : ((w.setCell ⟨t, 0, none⟩ (.slice (some ⟨kb, 0, none⟩) K.length kc)).setCell ⟨t, 1, none⟩ (.iface 3 (.int .i64 i))).heap[t]? = some (oneNd kb kc K (some i) l a cap mp mc).obj := by
    rw [heap_set (heap_set h1 _)]; rfl
  refine ⟨rfl, ⟨fun p => p = t, fun _ => oneNd kb kc K (some i) l a cap mp mc, fun _ => K, fun _ => K, fun _ => 0, ⟨⟨one_inv t kb kc K (some i) l a cap mp mc hk1, ?_, rfl⟩, ⟨?_, ?_⟩, ?_, ?_, rfl, rfl⟩, ?_⟩, hT⟩
  · rintro p rfl
    refine ⟨ho, h2.frame (kp _ nl) (kp _ na), k2, fun _ => ⟨C, fr, (kp kb nk).trans k3, by show 0 + kc ≤ _; omega, fun j hj => by show World.frozen? _ ⟨kb, j, none⟩ = false; rw [frozen_same (kp kb nk)]; exact k5 j hj, fun j hj => ?_⟩⟩
    have hj' : j < K.length := hj
    have := k1 j hj'
    rw [cell_of_block k3] at this
    exact this
  · rintro p rfl; simp [setM, oneNd]
  · intro k hk
    by_cases h : k = K
    · exact ⟨t, rfl, h.symm⟩
    · simp [setM, h] at hk
  · rintro p rfl
    exact ⟨.inl ((h3 _).2 (.inl rfl)), .inl ((h3 _).2 (.inr (.inl rfl))), .inl ((h3 _).2 (.inr (.inr rfl))), .inr rfl⟩
  · intro k hk
    have hs : ((w.setCell ⟨t, 0, none⟩ (.slice (some ⟨kb, 0, none⟩) K.length kc)).setCell ⟨t, 1, none⟩ (.iface 3 (.int .i64 i))).heap.size = w.heap.size := by simp
    rw [hs]
    rcases hk with h | h
    · rcases (h3 k).1 h with h | h | h
      · omega
      · rw [h]; exact lt_of_heap c1
      · rw [h]; exact lt_of_heap c2
    · rw [h]; exact lt_of_heap k3
  · rintro p rfl; left; simp [oneNd]

set_option maxHeartbeats 6400000 in
set_option maxRecDepth 100000 in
theorem put_new (w : World) (t : Nat) (mp : Int) (O : Nat → Prop) (F : Fresh w t mp O) (kb kc : Nat) (K : List UInt8) (hK : KeyAt w kb kc K) (hk1 : K.length ≤ 10) (hkm : (K.length : Int) ≤ mp) (i : Int) (rep : Bool) :
    Calls Try.prog 62 #[ptr t, .slice (some ⟨kb, 0, none⟩) K.length kc, .iface 3 (.int .i64 i), .bool rep] w (PutN w t mp O K i kb) := by
  have HF := Lib.hid F
  have HK := Lib.hid hK
  obtain ⟨l, a, cap, mc, h1, h2, h3⟩ := F
  have c0 : w.cell? ⟨t, 0, none⟩ = some (.slice none 0 0) := by rw [cell_of_block h1]; rfl
  have c1 : w.cell? ⟨t, 1, none⟩ = some .nilIface := by rw [cell_of_block h1]; rfl
  have c2 : w.cell? ⟨t, 2, none⟩ = some (.int .i64 mp) := by rw [cell_of_block h1]; rfl
  have f0 := free_of_block h1 0
  have f1 := free_of_block h1 1
  have hnil := fun (W : World) (a : Addr) (n c : Nat) => Lib.run_eql_slice_nil (P := Try.prog) W 53 5 (some a) n c 0 0 Try.underlying53
  have hnil0 := fun (W : World) => Lib.run_eql_slice_nil (P := Try.prog) W 53 5 none 0 0 0 0 Try.underlying53
  clear h1 h2 h3 hK
  go_enter Try.func62, Try.ntmps62
  go_wp2_with fail
  refine wp_scope3 rfl rfl rfl ?_
  intro J0 J1 J2 hJ0 hJ1 hJ2
  cases rep <;> go_wp2_with (first | go_step3 | with_reducible refine j3_i0 ?_ | with_reducible refine j3_i1 ?_ | with_reducible refine j3_i2 ?_ | with_reducible refine j1_i0 ?_)
  all_goals
    rw [Exit.noGoto_ret]
    go_ret
    exact one_post HF.out HK.out hk1 i

/-- A trie that has got the first j words. -/
def GS (w : World) (t : Nat) (mp : Int) (j : Nat) (M : List UInt8 → Option Int) (O : Nat → Prop) : Prop :=
  (∀ k, O k → k < w.heap.size) ∧ ((j = 0 ∧ M = (fun _ => none) ∧ Fresh w t mp O) ∨ (j = 1 ∧ TrieAt w t 2 mp [65] M O) ∨ (2 ≤ j ∧ ∃ rp, TrieAt w t 2 10 rp M O))

def PutG (w : World) (t : Nat) (mp : Int) (j : Nat) (M : List UInt8 → Option Int) (O : Nat → Prop) (K : List UInt8) (i : Int) (rep : Bool) (kb : Nat) (e : Ending) (w' : World) : Prop :=
  e = .returned (.bool (rep || (M K).isNone)) ∧ ∃ O', GS w' t mp (j + 1) (if rep || (M K).isNone then setM M K (some i) else M) O' ∧ (∀ k, O' k → O k ∨ k = kb ∨ (w.heap.size ≤ k ∧ k < w'.heap.size)) ∧ Tch w w' O

theorem TrieAt.lt {w : World} {t lf : Nat} {mp : Int} {rp : List UInt8} {M : List UInt8 → Option Int} {O : Nat → Prop} (h : TrieAt w t lf mp rp M O) : ∀ k, O k → k < w.heap.size := by
  obtain ⟨_, _, _, _, _, A, _⟩ := h
  exact A.lt

theorem put_g (w : World) (t : Nat) (mp : Int) (j : Nat) (M : List UInt8 → Option Int) (O : Nat → Prop) (G : GS w t mp j M O) (kb kc : Nat) (K : List UInt8) (hK : KeyAt w kb kc K) (hkb : ¬ O kb)
    (hk0 : 0 < K.length) (hk1 : K.length ≤ 10) (hmp : 1 ≤ mp) (h0 : j = 0 → K = [65]) (h1 : j = 1 → K = [90]) (i : Int) (rep : Bool) :
    Calls Try.prog 62 #[ptr t, .slice (some ⟨kb, 0, none⟩) K.length kc, .iface 3 (.int .i64 i), .bool rep] w (PutG w t mp j M O K i rep kb) := by
  obtain ⟨hO, G⟩ := G
  rcases G with ⟨rfl, rfl, F⟩ | ⟨rfl, T⟩ | ⟨hj, rp, T⟩
  · have hk := h0 rfl
    refine (put_new w t mp O F kb kc K hK hk1 (by rw [hk]; exact hmp) i rep).mono ?_
    rintro e w' ⟨rfl, hT, hch⟩
    have hM : (rep || ((fun _ => none : List UInt8 → Option Int) K).isNone) = true := by simp
    refine ⟨by rw [hM], _, ⟨hT.lt, .inr (.inl ⟨rfl, ?_⟩)⟩, fun k hk => hk.imp id .inl, hch⟩
    rw [hM, if_pos rfl]
    rw [← hk]
    exact hT
  · have hk := h1 rfl
    refine (put_any w t mp [65] M O T kb kc K hK hkb hk0 hk1 (.inr (by rw [hk]; decide)) i rep).mono ?_
    rintro e w' ⟨rfl, O', rp', hT, h3, h4⟩
    exact ⟨rfl, O', ⟨hT.lt, .inr (.inr ⟨by omega, rp', hT⟩)⟩, h3, h4⟩
  · refine (put_any w t 10 rp M O T kb kc K hK hkb hk0 hk1 (.inl rfl) i rep).mono ?_
    rintro e w' ⟨rfl, O', rp', hT, h3, h4⟩
    exact ⟨rfl, O', ⟨hT.lt, .inr (.inr ⟨by omega, rp', hT⟩)⟩, h3, h4⟩

theorem insert_g (w : World) (t : Nat) (mp : Int) (j : Nat) (M : List UInt8 → Option Int) (O : Nat → Prop) (G : GS w t mp j M O) (kb kc : Nat) (K : List UInt8) (hK : KeyAt w kb kc K) (hkb : ¬ O kb)
    (hk0 : 0 < K.length) (hk1 : K.length ≤ 10) (hmp : 1 ≤ mp) (h0 : j = 0 → K = [65]) (h1 : j = 1 → K = [90]) (i : Int) :
    Calls Try.prog 44 #[ptr t, .slice (some ⟨kb, 0, none⟩) K.length kc, .iface 3 (.int .i64 i)] w (PutG w t mp j M O K i false kb) := by
  have HP := Lib.hid (put_g w t mp j M O G kb kc K hK hkb hk0 hk1 hmp h0 h1 i false)
  clear G hK hkb h0 h1
  go_enter Try.func44, Try.ntmps44
  go_wp2_with fail
  refine HP.out.mono ?_
  rintro e w' ⟨rfl, h⟩
  go_wp2_with fail
  go_ret
  exact ⟨rfl, h⟩

theorem set_g (w : World) (t : Nat) (mp : Int) (j : Nat) (M : List UInt8 → Option Int) (O : Nat → Prop) (G : GS w t mp j M O) (kb kc : Nat) (K : List UInt8) (hK : KeyAt w kb kc K) (hkb : ¬ O kb)
    (hk0 : 0 < K.length) (hk1 : K.length ≤ 10) (hmp : 1 ≤ mp) (h0 : j = 0 → K = [65]) (h1 : j = 1 → K = [90]) (i : Int) :
    Calls Try.prog 39 #[ptr t, .slice (some ⟨kb, 0, none⟩) K.length kc, .iface 3 (.int .i64 i)] w (fun e w' => e = .returned (.tuple #[]) ∧ PutG w t mp j M O K i true kb (.returned (.bool true)) w') := by
  have HP := Lib.hid (put_g w t mp j M O G kb kc K hK hkb hk0 hk1 hmp h0 h1 i true)
  clear G hK hkb h0 h1
  go_enter Try.func39, Try.ntmps39
  go_wp2_with fail
  refine HP.out.mono ?_
  rintro e w' ⟨rfl, h⟩
  go_wp2_with fail
  refine bodyPost_end (results_none rfl _ _ _) rfl ?_
  exact ⟨rfl, rfl, h⟩

end Go.Proofs.Ytmdbnjepajifpaa
