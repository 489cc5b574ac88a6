/- Tries in memory, part C6. Lemmas; no statement of their own. -/
import Derived.Test.YtmdbnjepajifpaaC8
import Derived.WalkLawsBesides
import Derived.RegionTactic
import Derived.Test.YtmdbnjepajifpaaShelfB

/- A trie in memory whose root may have no bytes of its own (a copy's root has a nil prefix). -/
set_option linter.unusedVariables false
set_option linter.unusedSimpArgs false
namespace Go.Proofs.Ytmdbnjepajifpaa
open Go.RowKit

structure TRw (w : World) (root : Nat) (N : Nat → Prop) (nd : Nat → Nd) (wd : Nat → List UInt8) (S : Nat → List UInt8) (sh : Nat → Nat) : Prop where
  I : Inv root N nd wd S sh
  H : ∀ p, N p → HN w p (nd p)
  rn : (nd root).np = true → (nd root).px = [] ∧ (nd root).sb = root

structure TAw (w : World) (t : Nat) (mp : Int) (rp : List UInt8) (M : List UInt8 → Option Int) (O : Nat → Prop)
    (N : Nat → Prop) (nd : Nat → Nd) (wd : Nat → List UInt8) (S : Nat → List UInt8) (sh : Nat → Nat) : Prop where
  T : TRw w t N nd wd S sh
  C : Cont N nd wd M
  own : ∀ p, N p → O p ∧ O (nd p).cl.l ∧ O (nd p).cl.a ∧ O (nd p).sb
  lt : ∀ k, O k → k < w.heap.size
  mp : (nd t).mp = mp
  rp : (nd t).px = rp

section
variable {root t : Nat} {mp : Int} {rp : List UInt8} {M : List UInt8 → Option Int} {O : Nat → Prop} {N : Nat → Prop} {nd : Nat → Nd} {wd : Nat → List UInt8} {S : Nat → List UInt8} {sh : Nat → Nat} {w w1 : World}
theorem TA.lax (A : TA w t mp rp M O N nd wd S sh) : TAw w t mp rp M O N nd wd S sh :=
  ⟨⟨A.T.I, A.T.H, fun h => by rw [A.T.rn] at h; cases h⟩, A.C, A.own, A.lt, A.mp, A.rp⟩
theorem TRw.np (T : TRw w root N nd wd S sh) {p : Nat} (hp : N p) (h : p ≠ root) : (nd p).np = false := T.I.np p hp h
theorem TRw.pxl (T : TRw w root N nd wd S sh) {p : Nat} (hp : N p) : (nd p).px.length ≤ 10 := by
  have h1 := T.I.len p hp
  by_cases h : p = root
  · rw [h, ← T.I.root_wd, ← h]; exact h1
  · obtain ⟨q, hq, hc⟩ := T.I.par p hp h
    have := (T.I.kid q hq p hc).2.2.1
    rw [this, List.length_append] at h1
    omega
theorem TRw.l_ne (T : TRw w root N nd wd S sh) {p q : Nat} (hp : N p) (hq : N q) : (nd p).cl.l ≠ q := by
  obtain ⟨C, h⟩ := (T.H p hp).raw.l_ty
  exact ne_of_type h (T.H q hq).obj (CL.sty_ne _).1
theorem TRw.a_ne (T : TRw w root N nd wd S sh) {p q : Nat} (hp : N p) (hq : N q) : (nd p).cl.a ≠ q := by
  obtain ⟨C, h⟩ := (T.H p hp).raw.a_ty
  exact ne_of_type h (T.H q hq).obj (by decide)
theorem TRw.la_ne (T : TRw w root N nd wd S sh) {p q : Nat} (hp : N p) (hq : N q) : (nd p).cl.l ≠ (nd q).cl.a := by
  obtain ⟨C, h⟩ := (T.H p hp).raw.l_ty
  obtain ⟨D, k⟩ := (T.H q hq).raw.a_ty
  exact ne_of_type h k (CL.sty_ne _).2.1
theorem TRw.sb_cases (T : TRw w root N nd wd S sh) {p : Nat} (hp : N p) : (nd p).np = false ∨ (p = root ∧ (nd p).sb = p) := by
  by_cases h : p = root
  · subst h
    cases hn : (nd p).np with
    | false => exact .inl rfl
    | true => exact .inr ⟨rfl, (T.rn hn).2⟩
  · exact .inl (T.np hp h)
theorem TRw.sl_ne (T : TRw w root N nd wd S sh) {p q : Nat} (hp : N p) (hq : N q) : (nd p).sb ≠ (nd q).cl.l := by
  rcases T.sb_cases hp with hn | ⟨_, e⟩
  · obtain ⟨C, fr, h, _⟩ := (T.H p hp).blk hn
    obtain ⟨D, k⟩ := (T.H q hq).raw.l_ty
    exact ne_of_type h k (CL.sty_ne _).2.2.symm
  · rw [e]; exact (T.l_ne hq hp).symm
theorem TRw.sa_ne (T : TRw w root N nd wd S sh) {p q : Nat} (hp : N p) (hq : N q) : (nd p).sb ≠ (nd q).cl.a := by
  rcases T.sb_cases hp with hn | ⟨_, e⟩
  · obtain ⟨C, fr, h, _⟩ := (T.H p hp).blk hn
    obtain ⟨D, k⟩ := (T.H q hq).raw.a_ty
    exact ne_of_type h k (by decide)
  · rw [e]; exact (T.a_ne hq hp).symm
theorem TAw.later (A : TAw w t mp rp M O N nd wd S sh) (hk : ∀ k, O k → w1.heap[k]? = w.heap[k]?) (hs : w.heap.size ≤ w1.heap.size) : TAw w1 t mp rp M O N nd wd S sh :=
  ⟨⟨A.T.I, fun p hp => by
      obtain ⟨o1, o2, o3, o4⟩ := A.own p hp
      exact (A.T.H p hp).frame (hk _ o1) (hk _ o2) (hk _ o3) (hk _ o4), A.T.rn⟩, A.C, A.own, fun k h => Nat.lt_of_lt_of_le (A.lt k h) hs, A.mp, A.rp⟩
theorem TAw.dr (A : TAw w t mp rp M O N nd wd S sh) (n : Nat) : TAw (w.drewN n) t mp rp M O N nd wd S sh := A.later (fun _ _ => rfl) (Nat.le_refl _)
theorem Tch.taw (A : TAw w t mp rp M O N nd wd S sh) {W : World} {U : Nat → Prop} (hT : Tch w W U) (hU : ∀ k, O k → ¬ U k) : TAw W t mp rp M O N nd wd S sh := A.later (fun k hk => hT.keep k (A.lt k hk) (hU k hk)) hT.size
end

end Go.Proofs.Ytmdbnjepajifpaa

/- Len, Less and Swap of tries. -/
namespace Go.Proofs.Ytmdbnjepajifpaa
open Go.RowKit Go.Proofs.YtmdbnjepajifpaaW.PrintWords Go.Proofs.YtmdbnjepajifpaaW.PrintLast Go.Proofs.YtmdbnjepajifpaaW.PrintMore

/-- The array of a sparse list holds the nodes ks; all else that is old is as it was in w0. -/
def SrtW (w0 : World) (a cap : Nat) (ks : List Nat) (W : World) : Prop :=
  Tch w0 W (fun k => k = a) ∧ ks.length ≤ cap ∧ ∃ C : Array Value, W.heap[a]? = some (.cells C 50 (0, 0)) ∧ C.size = cap ∧ ∀ (i c : Nat), ks[i]? = some c → C[i]? = some (ptr c)

/-- The nodes' parts of the key can be read. -/
def PxAt (w0 : World) (px : Nat → Wd) (c : Nat) : Prop :=
  ∃ sb so cp, w0.cell? ⟨c, 0, none⟩ = some (.slice (some ⟨sb, so, none⟩) (px c).length cp) ∧ KS w0 sb so (px c) ∧ (px c).length ≤ 1000 ∧ 0 < (px c).length

theorem PxAt.later {w0 W : World} {a : Nat} {px : Nat → Wd} {c : Nat} (h : PxAt w0 px c) (hT : Tch w0 W (fun k => k = a)) (h1 : c ≠ a) (h2 : ∀ sb so n cp, w0.cell? ⟨c, 0, none⟩ = some (.slice (some ⟨sb, so, none⟩) n cp) → sb ≠ a) : PxAt W px c := by
  obtain ⟨sb, so, cp, e1, e2, e3, e4⟩ := h
  refine ⟨sb, so, cp, by rw [World.cell?_of_block (hT.keep c (World.block_lt_of_cell? w0 _ e1) h1)]; exact e1, fun i hi => ?_, e3, e4⟩
  rw [World.cell?_of_block (hT.keep sb (World.block_lt_of_cell? w0 _ (e2 i hi)) (h2 sb so _ cp e1))]
  exact e2 i hi

theorem tries_len (w : World) (A : Option Addr) (n c : Nat) : Calls Try.prog 139 #[.slice A n c] w (fun e w' => e = .returned (.int .i64 n) ∧ w' = w) := by
  go_enter Try.func139, Try.ntmps139
  go_wp2_with fail
  go_ret
  exact ⟨rfl, rfl⟩

theorem bl_eq : ∀ (x y : Wd), Op.bytesLess x y = decide (x < y)
  | x, [] => by cases x <;> simp [Op.bytesLess]
  | [], b :: y => by simp [Op.bytesLess]
  | a :: x, b :: y => by
    unfold Op.bytesLess
    rw [bl_eq x y, Bool.eq_iff_iff]
    simp only [Bool.or_eq_true, Bool.and_eq_true, decide_eq_true_eq, beq_iff_eq, List.cons_lt_cons_iff]

theorem ss_less (w : World) (g : Nat) (s u : ByteArray) (hg : w.heap[g]? = some (.cells #[.string s, .string u] 9 (0, 0))) :
    Calls Try.prog 142 #[.slice (some ⟨g, 0, none⟩) 2 2, .int .i64 0, .int .i64 1] w (RetD (.bool (decide (keyOf s < keyOf u))) w) := by
  have c0 : w.cell? ⟨g, 0, none⟩ = some (.string s) := by rw [cell_of_block hg]; rfl
  have c1 : w.cell? ⟨g, 1, none⟩ = some (.string u) := by rw [cell_of_block hg]; rfl
  have he : Op.bytesLess s.toList u.toList = decide (keyOf s < keyOf u) := by rw [bl_eq, ByteArray.toList_eq, ByteArray.toList_eq]; rfl
  have HE := Lib.hid he
  clear hg he
  go_enter Try.func142, Try.ntmps142
  go_wp2_with fail
  go_quiet (fail)
  go_wp2_with fail
  go_ret
  rw [← HE.out]
  exact retD _ rfl rfl

set_option maxRecDepth 100000 in
set_option maxHeartbeats 1600000 in
theorem tries_less (w : World) (a n cap i j : Nat) (px : Nat → Wd) (ci cj : Nat) (hi : i < n) (hj : j < n) (hn : n ≤ 1000) (c1 : w.cell? ⟨a, i, none⟩ = some (ptr ci)) (c2 : w.cell? ⟨a, j, none⟩ = some (ptr cj)) (p1 : PxAt w px ci) (p2 : PxAt w px cj) :
    Calls Try.prog 140 #[.slice (some ⟨a, 0, none⟩) n cap, .int .i64 i, .int .i64 j] w (fun e w' => e = .returned (.bool (decide (px ci < px cj))) ∧ Tch w w' (fun _ => False)) := by
  obtain ⟨sb1, so1, cp1, d1, k1, l1, z1⟩ := p1
  obtain ⟨sb2, so2, cp2, d2, k2, l2, z2⟩ := p2
  have g1 : (i : Int) < (n : Int) := by omega
  have g2 : (j : Int) < (n : Int) := by omega
  obtain ⟨W, hW⟩ : ∃ W, w.drew = W := ⟨_, rfl⟩
  have c1 : W.cell? ⟨a, i, none⟩ = some (.pointer (some ⟨ci, 0, none⟩)) := by rw [← hW]; exact c1
  have c2 : W.cell? ⟨a, j, none⟩ = some (.pointer (some ⟨cj, 0, none⟩)) := by rw [← hW]; exact c2
  have d1 : W.cell? ⟨ci, 0, none⟩ = some (.slice (some ⟨sb1, so1, none⟩) (px ci).length cp1) := by rw [← hW]; exact d1
  have d2 : W.cell? ⟨cj, 0, none⟩ = some (.slice (some ⟨sb2, so2, none⟩) (px cj).length cp2) := by rw [← hW]; exact d2
  have k1 : KS W sb1 so1 (px ci) := by rw [← hW]; exact k1
  have k2 : KS W sb2 so2 (px cj) := by rw [← hW]; exact k2
  have hc1 := bytes_run k1 (c := cp1) (by omega)
  have hc2 := bytes_run k2 (c := cp2) (by omega)
  have hT : Tch w W (fun _ => False) := by rw [← hW]; exact (Tch.refl w _).drw
  have HW := Lib.hid hW
  have HT := Lib.hid hT
  clear hT hW k1 k2
  go_enter Try.func140, Try.ntmps140
  go_wp2_with fail
  refine wp_region_tail 16 (by kernel_rfl) (by kernel_rfl) HW.out ?_
  simp only [List.take_succ_cons, List.take_zero, List.drop_succ_cons, List.drop_zero]
  repeat still_step
  refine wpStill_nil ?_
  go_wp2_with fail
  refine (ss_less _ W.heap.size (strB (px ci)) (strB (px cj)) (heap_new W _)).mono ?_
  rw [key_strB, key_strB]
  rintro e w2 ⟨rfl, n1, rfl⟩
  have HT2 : Hid (Tch w ((W.alloc (.cells #[.string (strB (px ci)), .string (strB (px cj))] 9)).drewN n1) (fun _ => False)) := (HT.out.alloc _).drn n1
  generalize (W.alloc (.cells #[.string (strB (px ci)), .string (strB (px cj))] 9)).drewN n1 = W2 at HT2 ⊢
  go_wp2_with fail
  go_ret
  exact ⟨rfl, HT2.out⟩

set_option maxRecDepth 100000 in
set_option maxHeartbeats 1600000 in
theorem tries_swap (w : World) (a n cap i j x y : Nat) (hi : i < n) (hj : j < n) (hij : i ≠ j) (hn : n ≤ 1000) (C : Array Value) (ha : w.heap[a]? = some (.cells C 50 (0, 0))) (c1 : C[i]? = some (ptr x)) (c2 : C[j]? = some (ptr y)) :
    Calls Try.prog 141 #[.slice (some ⟨a, 0, none⟩) n cap, .int .i64 i, .int .i64 j] w (fun e w' => e = .returned (.tuple #[]) ∧ w'.heap = ((w.setCell ⟨a, i, none⟩ (ptr y)).setCell ⟨a, j, none⟩ (ptr x)).heap ∧ w'.os = w.os ∧ w'.tape = w.tape ∧ w'.output = w.output) := by
  have d1 : w.cell? ⟨a, i, none⟩ = some (.pointer (some ⟨x, 0, none⟩)) := by rw [cell_of_block ha]; exact c1
  have d2 : w.cell? ⟨a, j, none⟩ = some (.pointer (some ⟨y, 0, none⟩)) := by rw [cell_of_block ha]; exact c2
  have f1 := free_of_block ha i
  have f2 := free_of_block ha j
  have g1 : (i : Int) < (n : Int) := by omega
  have g2 : (j : Int) < (n : Int) := by omega
  have hij' : ¬ i = j := hij
  have hji' : ¬ j = i := fun e => hij e.symm
  clear ha c1 c2 hij
  go_enter Try.func141, Try.ntmps141
  go_wp2_with fail
  go_region
  go_wp2_with fail
  refine bodyPost_end (results_none rfl _ _ _) rfl ?_
  exact ⟨rfl, rfl, rfl, rfl, rfl⟩

end Go.Proofs.Ytmdbnjepajifpaa

/- sort.insertionSort, sort.Sort, over the array of a sparse list. -/
namespace Go.Proofs.Ytmdbnjepajifpaa
open Go.RowKit Go.Proofs.YtmdbnjepajifpaaW.PrintWords Go.Proofs.YtmdbnjepajifpaaW.PrintLast Go.Proofs.YtmdbnjepajifpaaW.PrintMore

/-- In the order of the nodes' parts of the key. -/
def NSrt (px : Nat → Wd) (l : List Nat) : Prop := l.Pairwise (fun c d => px c < px d)

theorem SrtW.less {w0 W W' : World} {a cap : Nat} {ks : List Nat} (h : SrtW w0 a cap ks W) (hT : Tch W W' (fun _ => False)) : SrtW w0 a cap ks W' := by
  obtain ⟨h1, h2, C, h3, h4, h5⟩ := h
  exact ⟨h1.trans hT (fun _ _ h => h.elim), h2, C, (hT.keep a (lt_of_heap h3) (fun h => h)).trans h3, h4, h5⟩

theorem SrtW.swap {w0 W W' : World} {a cap j : Nat} {A B : List Nat} {x y : Nat} (h : SrtW w0 a cap (A ++ y :: x :: B) W) (hj : j = A.length) (hW : W'.heap = ((W.setCell ⟨a, j + 1, none⟩ (ptr y)).setCell ⟨a, j, none⟩ (ptr x)).heap) (hm : W'.os = W.os ∧ W'.tape = W.tape ∧ W'.output = W.output) :
    SrtW w0 a cap (A ++ x :: y :: B) W' := by
  subst hj
  obtain ⟨h1, h2, C, h3, h4, h5⟩ := h
  refine ⟨h1.trans (U := fun k => k = a) ⟨hm.1, hm.2.1, hm.2.2, by rw [hW]; simp, fun k _ hk => by rw [hW, heap_set_ne hk, heap_set_ne hk]⟩ (fun _ _ h => h), by simpa using h2, _, by rw [hW]; exact heap_set (heap_set h3 _) _, by simp [h4], fun i c hi => ?_⟩
  have hlen : A.length + 1 < C.size := by simp at h2; omega
  by_cases e0 : i = A.length
  · subst e0
    rw [List.getElem?_append_right (Nat.le_refl _), Nat.sub_self] at hi
    simp at hi
    subst hi
    rw [Array.getElem?_setIfInBounds_self, if_pos (by simp; omega)]
  · rw [Array.getElem?_setIfInBounds_ne (fun h => e0 h.symm)]
    by_cases e1 : i = A.length + 1
    · subst e1
      rw [List.getElem?_append_right (by omega), show A.length + 1 - A.length = 1 by omega] at hi
      simp at hi
      subst hi
      rw [Array.getElem?_setIfInBounds_self, if_pos hlen]
    · rw [Array.getElem?_setIfInBounds_ne (fun h => e1 h.symm)]
      apply h5
      by_cases e2 : i < A.length
      · rw [List.getElem?_append_left e2] at hi ⊢; exact hi
      · rw [List.getElem?_append_right (by omega)] at hi ⊢
        obtain ⟨m, hm⟩ : ∃ m, i - A.length = m + 2 := ⟨i - A.length - 2, by omega⟩
        rw [hm] at hi ⊢
        simpa using hi

/-- The inner loop: x stands at place j; what stands before i is in order but for x. -/
def InI (w0 : World) (a cap : Nat) (px : Nat → Wd) (ks : List Nat) (i j : Nat) (W : World) : Prop :=
  ∃ (A : List Nat) (x : Nat) (B R : List Nat), SrtW w0 a cap (A ++ x :: (B ++ R)) W ∧ (A ++ x :: (B ++ R)).Perm ks ∧ A.length = j ∧ A.length + B.length = i ∧ NSrt px (A ++ B) ∧ ∀ b, b ∈ B → px x < px b

/-- The outer loop: the first i are in order. -/
def OutI (w0 : World) (a cap : Nat) (px : Nat → Wd) (ks : List Nat) (i : Nat) (W : World) : Prop :=
  ∃ (A R : List Nat), SrtW w0 a cap (A ++ R) W ∧ (A ++ R).Perm ks ∧ A.length = i ∧ NSrt px A

theorem InI.less {w0 W W' : World} {a cap i j : Nat} {px : Nat → Wd} {ks : List Nat} (h : InI w0 a cap px ks i j W) (hT : Tch W W' (fun _ => False)) : InI w0 a cap px ks i j W' := by
  obtain ⟨A, x, B, R, h1, h2⟩ := h
  exact ⟨A, x, B, R, h1.less hT, h2⟩
theorem OutI.inner {w0 W : World} {a cap i : Nat} {px : Nat → Wd} {ks : List Nat} (h : OutI w0 a cap px ks i W) (hi : i < ks.length) : InI w0 a cap px ks i i W := by
  obtain ⟨A, R, h1, h2, h3, h4⟩ := h
  cases R with
  | nil => have := h2.length_eq; simp at this; omega
  | cons x R => exact ⟨A, x, [], R, by simpa using h1, by simpa using h2, h3, by simpa using h3, by simpa using h4, fun b hb => by cases hb⟩

/-- The inner loop stops: x is not less than what stands before it. -/
theorem InI.stop {w0 W : World} {a cap i j : Nat} {px : Nat → Wd} {ks : List Nat} (h : InI w0 a cap px ks i j W) (hd : ∀ c d, c ∈ ks → d ∈ ks → px c = px d → c = d) (hnd : ks.Nodup)
    (hst : j = 0 ∨ ∃ (C : Array Value) (x y : Nat), W.heap[a]? = some (.cells C 50 (0, 0)) ∧ C[j - 1]? = some (ptr y) ∧ C[j]? = some (ptr x) ∧ ¬ px x < px y) : OutI w0 a cap px ks (i + 1) W := by
  obtain ⟨A, x, B, R, h1, h2, h3, h4, h5, h6⟩ := h
  refine ⟨A ++ x :: B, R, by simpa using h1, by simpa using h2, by simp; omega, ?_⟩
  have hAB := List.pairwise_append.1 h5
  show (A ++ x :: B).Pairwise _
  rw [List.pairwise_append]
  have hax : ∀ y, y ∈ A → px y < px x := by
    rcases hst with h | h
    · intro y hy
      rw [h] at h3
      rw [List.length_eq_zero_iff.1 h3] at hy; cases hy
    · rcases List.eq_nil_or_concat A with rfl | ⟨A', z, rfl⟩
      · intro y hy; cases hy
      · rw [List.concat_eq_append] at *
        have hA' : A'.length + 1 = j := by rw [List.length_append] at h3; simpa using h3
        obtain ⟨C, x', y', e1, e2, e3, e4⟩ := h
        obtain ⟨_, _, C', k1, _, k2⟩ := h1
        rw [e1] at k1
        injection k1 with k1
        injection k1 with k1
        subst k1
        have hz := k2 (j - 1) z (by rw [← hA', show A'.length + 1 - 1 = A'.length by omega, List.append_assoc, List.getElem?_append_right (Nat.le_refl _), Nat.sub_self]; rfl)
        have hx := k2 j x (by rw [← hA', List.append_assoc, List.getElem?_append_right (by omega), show A'.length + 1 - A'.length = 1 by omega]; rfl)
        rw [e2] at hz
        rw [e3] at hx
        have ez : y' = z := by injection hz with hz; injection hz with hz; injection hz with hz; injection hz
        have ex : x' = x := by injection hx with hx; injection hx with hx; injection hx with hx; injection hx
        rw [ez, ex] at e4
        have h7 := e4
        have hzx : px z < px x := by
          rcases wd_total (px z) (px x) with h8 | h8 | h8
          · exact h8
          · exfalso
            have hm1 : z ∈ ks := h2.mem_iff.1 (by simp)
            have hm2 : x ∈ ks := h2.mem_iff.1 (by simp)
            have e := hd z x hm1 hm2 h8
            have := h2.nodup_iff.2 hnd
            rw [e] at this
            rw [List.nodup_append] at this
            exact this.2.2 x (by simp) x (by simp) rfl
          · exact absurd h8 h7
        intro y hy
        rw [List.mem_append] at hy
        rcases hy with hy | hy
        · have hA := (List.pairwise_append.1 hAB.1).2.2 y hy z (by simp)
          exact wd_trans hA hzx
        · simp only [List.mem_singleton] at hy
          rw [hy]; exact hzx
  refine ⟨hAB.1, List.pairwise_cons.2 ⟨h6, hAB.2.1⟩, fun y hy z hz => ?_⟩
  rcases List.mem_cons.1 hz with rfl | hz
  · exact hax y hy
  · exact hAB.2.2 y hy z hz

/-- What stands at the two places. -/
theorem InI.two {w0 W : World} {a cap i j : Nat} {px : Nat → Wd} {ks : List Nat} (h : InI w0 a cap px ks i (j + 1) W) :
    ∃ (A : List Nat) (y x : Nat) (B : List Nat), A.length = j ∧ SrtW w0 a cap (A ++ y :: x :: B) W ∧ (A ++ y :: x :: B).Perm ks ∧
      ∀ W', SrtW w0 a cap (A ++ x :: y :: B) W' → px x < px y → InI w0 a cap px ks i j W' := by
  obtain ⟨A, x, B, R, h1, h2, h3, h4, h5, h6⟩ := h
  rcases List.eq_nil_or_concat A with rfl | ⟨A', y, rfl⟩
  · simp at h3
  · rw [List.concat_eq_append] at *
    have hl : A'.length = j := by rw [List.length_append] at h3; simpa using h3
    refine ⟨A', y, x, B ++ R, hl, by simpa using h1, by simpa using h2, fun W' hW hlt => ⟨A', x, y :: B, R, by simpa using hW, ?_, hl, by simp; simp at h4; omega, by simpa using h5, fun b hb => ?_⟩⟩
    · refine List.Perm.trans ?_ h2
      simp only [List.append_assoc, List.singleton_append, List.cons_append, List.nil_append]
      exact List.Perm.append_left A' (List.Perm.swap y x _)
    · rcases List.mem_cons.1 hb with rfl | hb
      · exact hlt
      · exact h6 b hb

theorem m_less (v : Value) (w : World) : (method 270 103 v "Less").run Try.prog w = .ok (140, v) w := by kernel_rfl
theorem m_swap (v : Value) (w : World) : (method 270 103 v "Swap").run Try.prog w = .ok (141, v) w := by kernel_rfl
theorem m_len (v : Value) (w : World) : (method 270 103 v "Len").run Try.prog w = .ok (139, v) w := by kernel_rfl
theorem f_less (args : Array Value) (w : World) : (callFunc 140 args).run Try.prog w = .ok (.enter 140 args) w := by kernel_rfl
theorem f_swap (args : Array Value) (w : World) : (callFunc 141 args).run Try.prog w = .ok (.enter 141 args) w := by kernel_rfl
theorem f_len (args : Array Value) (w : World) : (callFunc 139 args).run Try.prog w = .ok (.enter 139 args) w := by kernel_rfl

set_option maxRecDepth 100000 in
set_option maxHeartbeats 3200000 in
theorem isort_any (w0 : World) (a cap : Nat) (px : Nat → Wd) (ks : List Nat) (h0 : SrtW w0 a cap ks w0) (hk : ks.length ≤ 12) (hk0 : 0 < ks.length) (hpx : ∀ W, Tch w0 W (fun k => k = a) → ∀ c, c ∈ ks → PxAt W px c)
    (hd : ∀ c d, c ∈ ks → d ∈ ks → px c = px d → c = d) (hnd : ks.Nodup) :
    Calls Try.prog 125 #[.iface 103 (.slice (some ⟨a, 0, none⟩) ks.length cap), .int .i64 0, .int .i64 ks.length] w0 (fun e w' => e = .returned (.tuple #[]) ∧ OutI w0 a cap px ks ks.length w') := by
  have HPX := Lib.hid hpx
  have HD := Lib.hid (⟨hd, hnd⟩ : _ ∧ _)
  have hst : OutI w0 a cap px ks 1 w0 := by
    cases ks with
    | nil => simp at hk0
    | cons x r => exact ⟨[x], r, h0, List.Perm.refl _, rfl, List.pairwise_singleton _ _⟩
  have HST := Lib.hid hst
  have m1 := m_less
  have m2 := m_swap
  have m3 := f_less
  have m4 := f_swap
  clear hpx hd hnd hst h0
  go_enter Try.func125, Try.ntmps125
  go_wp2_with fail
  go_loopw [6] (fun i wr => ∃ ii : Nat, 1 ≤ ii ∧ ii ≤ ks.length ∧ i = .int .i64 (ii : Int) ∧ Hid (OutI w0 a cap px ks ii wr)) (fun i _ => ks.length - (intOf i).toNat)
  case atStart => exact ⟨1, Nat.le_refl _, hk0, rfl, HST⟩
  case round =>
    obtain ⟨i, hi1, hi2, rfl, HO⟩ := hrel
    by_cases hlt : i < ks.length
    · have g1 : (i : Int) < (ks.length : Int) := by omega
      have HI0 := Lib.hid (HO.out.inner hlt)
      obtain ⟨wo, rfl⟩ : ∃ wo : World, wo = wr := ⟨_, rfl⟩
      go_wp2_with fail
      go_loopw [7] (fun s wr => ∃ j : Nat, j ≤ i ∧ s = .int .i64 (j : Int) ∧ Hid (InI w0 a cap px ks i j wr)) (fun s _ => (intOf s).toNat)
      case atStart => exact ⟨i, Nat.le_refl _, rfl, HI0⟩
      case round =>
        obtain ⟨j, hji, rfl, HJ⟩ := hrel
        by_cases hj0 : j = 0
        · subst hj0
          have HOUT := Lib.hid (HJ.out.stop HD.out.1 HD.out.2 (.inl rfl))
          go_wp2_with fail
          go_roundw
          case rel => exact ⟨i + 1, by omega, by omega, by go_num, HOUT⟩
          case measure => simp [intOf]; omega
        · obtain ⟨jj, rfl⟩ : ∃ m, j = m + 1 := ⟨j - 1, by omega⟩
          obtain ⟨A, y, x, B, hA, hS, hperm, hnext⟩ := HJ.out.two
          have hlen : (A ++ y :: x :: B).length = ks.length := hperm.length_eq
          have hS0 := hS
          have hT := hS.1
          obtain ⟨_, _, C, ha, hCs, hC⟩ := hS
          have hCy : C[jj]? = some (ptr y) := hC jj y (by rw [← hA, List.getElem?_append_right (Nat.le_refl _), Nat.sub_self]; rfl)
          have hCx : C[jj + 1]? = some (ptr x) := hC (jj + 1) x (by rw [← hA, List.getElem?_append_right (by omega), show A.length + 1 - A.length = 1 by omega]; rfl)
          have hyk : y ∈ ks := hperm.mem_iff.1 (by simp)
          have hxk : x ∈ ks := hperm.mem_iff.1 (by simp)
          have hless := tries_less wr a ks.length cap (jj + 1) jj px x y (by simp at hlen; omega) (by simp at hlen; omega) (by omega) (by rw [cell_of_block ha]; exact hCx) (by rw [cell_of_block ha]; exact hCy) (HPX.out wr hT x hxk) (HPX.out wr hT y hyk)
          have HLS := Lib.hid hless
          have HS := Lib.hid (⟨hS0, hperm, hA, hnext⟩ : _ ∧ _ ∧ _ ∧ _)
          have hjl : jj + 1 < ks.length := by simp at hlen; omega
          have HCC := Lib.hid (⟨ha, hCy, hCx⟩ : _ ∧ _ ∧ _)
          clear hless hT ha hCs hC hCy hCx hyk hxk hnext hperm hlen hA hS0
          have g2 : (0 : Int) < (jj : Int) + 1 := by omega
          by_cases hxy : px x < px y
          · have hdd : decide (px x < px y) = true := decide_eq_true hxy
            have HXY := Lib.hid hxy
            rw [hdd] at HLS
            clear hxy hdd
            go_wp2_with fail
            refine HLS.out.mono ?_
            rintro e w2 ⟨rfl, hT2⟩
            have hS2 := HS.out.1.less hT2
            have hS20 := hS2
            obtain ⟨_, _, C2, ha2, hCs2, hC2⟩ := hS2
            have hA := HS.out.2.2.1
            have hsw := tries_swap w2 a ks.length cap (jj + 1) jj x y hjl (by omega) (by omega) (by omega) C2 ha2 (hC2 (jj + 1) x (by rw [← hA, List.getElem?_append_right (by omega), show A.length + 1 - A.length = 1 by omega]; rfl)) (hC2 jj y (by rw [← hA, List.getElem?_append_right (Nat.le_refl _), Nat.sub_self]; rfl))
            have HSW := Lib.hid hsw
            have HS2 := Lib.hid hS20
            clear hsw hS20 ha2 hCs2 hC2 hT2 hA
            go_wp2_with fail
            refine HSW.out.mono ?_
            rintro e w3 ⟨rfl, hW3, hm3⟩
            have HI3 := Lib.hid (HS.out.2.2.2 w3 (HS2.out.swap HS.out.2.2.1.symm hW3 hm3) HXY.out)
            clear hW3 hm3
            go_wp2_with fail
            go_roundw
            case rel => exact ⟨jj, by omega, by go_num, HI3⟩
            case measure => simp [intOf]
          · have hdd : decide (px x < px y) = false := decide_eq_false hxy
            have HXY := Lib.hid hxy
            rw [hdd] at HLS
            clear hxy hdd
            go_wp2_with fail
            refine HLS.out.mono ?_
            rintro e w2 ⟨rfl, hT2⟩
            have HOUT : Hid (OutI w0 a cap px ks (i + 1) w2) :=
              (HJ.out.less hT2).stop HD.out.1 HD.out.2 (.inr ⟨C, x, y, (hT2.keep a (lt_of_heap HCC.out.1) (fun h => h)).trans HCC.out.1, HCC.out.2.1, HCC.out.2.2, HXY.out⟩)
            clear hT2
            go_wp2_with fail
            go_roundw
            case rel => exact ⟨i + 1, by omega, by omega, by go_num, HOUT⟩
            case measure => simp [intOf]; omega
    · have g1 : ¬ (i : Int) < (ks.length : Int) := by omega
      have hil : i = ks.length := by omega
      subst hil
      go_wp2_with fail
      refine bodyPost_end (results_none rfl _ _ _) rfl ?_
      exact ⟨rfl, HO.out⟩

end Go.Proofs.Ytmdbnjepajifpaa

/- sort.Sort of the children of a sparse list puts them in the order of their parts of the key. -/
namespace Go.Proofs.Ytmdbnjepajifpaa
open Go.RowKit Go.Proofs.YtmdbnjepajifpaaW.PrintWords Go.Proofs.YtmdbnjepajifpaaW.PrintLast Go.Proofs.YtmdbnjepajifpaaW.PrintMore

set_option maxRecDepth 100000 in
set_option maxHeartbeats 3200000 in
theorem pdq_any (w0 : World) (a cap : Nat) (px : Nat → Wd) (ks : List Nat) (lim : Int) (h0 : SrtW w0 a cap ks w0) (hk : ks.length ≤ 12) (hk0 : 0 < ks.length) (hpx : ∀ W, Tch w0 W (fun k => k = a) → ∀ c, c ∈ ks → PxAt W px c)
    (hd : ∀ c d, c ∈ ks → d ∈ ks → px c = px d → c = d) (hnd : ks.Nodup) :
    Calls Try.prog 124 #[.iface 103 (.slice (some ⟨a, 0, none⟩) ks.length cap), .int .i64 0, .int .i64 ks.length, .int .i64 lim] w0 (fun e w' => e = .returned (.tuple #[]) ∧ OutI w0 a cap px ks ks.length w') := by
  have HI := Lib.hid (isort_any w0 a cap px ks h0 hk hk0 hpx hd hnd)
  have g1 : (ks.length : Int) ≤ 12 := by omega
  clear h0 hpx hd hnd
  go_enter Try.func124, Try.ntmps124
  go_wp2_with fail
  refine wp_loop_rounds 1 ?_
  rw [rounds_succ]
  go_wp2_with fail
  refine HI.out.mono ?_
  rintro e w1 ⟨rfl, h⟩
  have H := Lib.hid h
  clear h
  go_wp2_with fail
  refine bodyPost_ret (results_none rfl _ _ _) rfl ?_
  exact ⟨rfl, H.out⟩

/-- What sort.Sort leaves: the same nodes, in order; only the array has been written. -/
def SortP (w0 : World) (a cap : Nat) (px : Nat → Wd) (ks : List Nat) (e : Ending) (w' : World) : Prop :=
  e = .returned (.tuple #[]) ∧ ∃ ks', SrtW w0 a cap ks' w' ∧ ks'.Perm ks ∧ NSrt px ks'

set_option maxRecDepth 100000 in
set_option maxHeartbeats 3200000 in
theorem sort_any (w0 : World) (a cap : Nat) (px : Nat → Wd) (ks : List Nat) (h0 : SrtW w0 a cap ks w0) (hk : ks.length ≤ 12) (hpx : ∀ W, Tch w0 W (fun k => k = a) → ∀ c, c ∈ ks → PxAt W px c)
    (hd : ∀ c d, c ∈ ks → d ∈ ks → px c = px d → c = d) (hnd : ks.Nodup) :
    Calls Try.prog 123 #[.iface 103 (.slice (some ⟨a, 0, none⟩) ks.length cap)] w0 (SortP w0 a cap px ks) := by
  have m1 := m_len
  have m2 := f_len
  have HL := Lib.hid (tries_len w0 (some ⟨a, 0, none⟩) ks.length cap)
  by_cases h1 : ks.length ≤ 1
  · have g1 : (ks.length : Int) ≤ 1 := by omega
    have hp : SortP w0 a cap px ks (.returned (.tuple #[])) w0 := by
      refine ⟨rfl, ks, h0, List.Perm.refl _, ?_⟩
      match ks, h1 with
      | [], _ => exact List.Pairwise.nil
      | [x], _ => exact List.pairwise_singleton _ _
    have HP := Lib.hid hp
    clear h0 hpx hd hnd hp
    go_enter Try.func123, Try.ntmps123
    go_wp2_with fail
    refine HL.out.mono ?_
    rintro e w1 ⟨rfl, hw⟩
    obtain rfl : w1 = w0 := hw
    go_wp2_with fail
    first | refine bodyPost_end (results_none rfl _ _ _) rfl ?_ | refine bodyPost_ret (results_none rfl _ _ _) rfl ?_
    exact HP.out
  · have g1 : ¬ (ks.length : Int) ≤ 1 := by omega
    have HI := Lib.hid (fun lim => pdq_any w0 a cap px ks lim h0 hk (by omega) hpx hd hnd)
    clear h0 hpx hd hnd
    go_enter Try.func123, Try.ntmps123
    go_wp2_with fail
    refine HL.out.mono ?_
    rintro e w1 ⟨rfl, hw⟩
    obtain rfl : w1 = w0 := hw
    go_wp2_with fail
    refine (Try.bits_Len (ks.length : Int) w1 (by omega) (by omega)).mono ?_
    rintro e w2 ⟨rfl, hw⟩
    obtain rfl : w2 = w1 := hw
    go_wp2_with fail
    refine (HI.out _).mono ?_
    rintro e w3 ⟨rfl, A, R, hs, hp, hl, hn⟩
    have hR : R = [] := by
      have := hp.length_eq
      rw [List.length_append] at this
      exact List.length_eq_zero_iff.1 (by omega)
    subst hR
    rw [List.append_nil] at hs hp
    have HP := Lib.hid (⟨hs, hp, hn⟩ : _ ∧ _ ∧ _)
    clear hs hp hl hn
    go_wp2_with fail
    refine bodyPost_end (results_none rfl _ _ _) rfl ?_
    exact ⟨rfl, A, HP.out⟩

end Go.Proofs.Ytmdbnjepajifpaa

/- What the walk over a trie keeps and turns: the order of the children, the variable that holds the prefix, the visitor's row. -/
namespace Go.Proofs.Ytmdbnjepajifpaa
open Go.RowKit Go.Proofs.YtmdbnjepajifpaaW.PrintWords Go.Proofs.YtmdbnjepajifpaaW.PrintLast Go.Proofs.YtmdbnjepajifpaaW.PrintMore

/-- The variable at block pb holds a slice of block bb with the bytes u, with room. -/
def PB (w : World) (pb bb cap : Nat) (u : Wd) : Prop :=
  w.heap[pb]? = some (.cells #[.slice (some ⟨bb, 0, none⟩) u.length cap] 53 (0, 0)) ∧ 20 ≤ cap ∧ cap ≤ 1000 ∧ ∃ C : Array Value, w.heap[bb]? = some (.cells C 5 (0, 0)) ∧ cap ≤ C.size ∧ ∀ i, i < u.length → C[i]? = some (.int .u8 ((u.getD i 0).toNat : Int))

theorem PB.ks {w : World} {pb bb cap : Nat} {u : Wd} (h : PB w pb bb cap u) : KS w bb 0 u := by
  obtain ⟨_, _, _, C, h1, _, h2⟩ := h
  intro i hi
  rw [Nat.zero_add, cell_of_block h1]
  exact h2 i hi
theorem PB.c0 {w : World} {pb bb cap : Nat} {u : Wd} (h : PB w pb bb cap u) : w.cell? ⟨pb, 0, none⟩ = some (.slice (some ⟨bb, 0, none⟩) u.length cap) := by rw [cell_of_block h.1]; rfl
theorem PB.ne {w : World} {pb bb cap : Nat} {u : Wd} (h : PB w pb bb cap u) : pb ≠ bb := by
  obtain ⟨h0, _, _, C, h1, _⟩ := h
  exact ne_of_type h0 h1 (by decide)
theorem PB.keep {w w' : World} {pb bb cap : Nat} {u : Wd} (h : PB w pb bb cap u) {U : Nat → Prop} (hT : Tch w w' U) (h1 : ¬ U pb) (h2 : ¬ U bb) : PB w' pb bb cap u := by
  obtain ⟨h0, h3, h4, C, h5, h6⟩ := h
  exact ⟨(hT.keep pb (lt_of_heap h0) h1).trans h0, h3, h4, C, (hT.keep bb (lt_of_heap h5) h2).trans h5, h6⟩

/-- The prefix grows by a node's part, in place. -/
theorem PB.grow {w w' w2 : World} {pb bb cap : Nat} {u v : Wd} (h : PB w pb bb cap u) (hl : u.length + v.length ≤ cap) (hT : Tch w w' (fun k => k = bb))
    (hC : ∀ C fr, w.heap[bb]? = some (.cells C 5 fr) → ∃ C', w'.heap[bb]? = some (.cells C' 5 fr) ∧ C'.size = C.size ∧ (∀ i, i < 0 + u.length ∨ 0 + u.length + v.length ≤ i → C'[i]? = C[i]?) ∧ (∀ i, i < v.length → C'[0 + u.length + i]? = some (.int .u8 ((v.getD i 0).toNat : Int))))
    (h2 : w2.heap = (w'.setCell ⟨pb, 0, none⟩ (.slice (some ⟨bb, 0, none⟩) (u.length + v.length) cap)).heap) : PB w2 pb bb cap (u ++ v) := by
  have hne := h.ne
  obtain ⟨h0, h3, h4, C, h5, h6, h7⟩ := h
  obtain ⟨C', g1, g2, g3, g4⟩ := hC C _ h5
  have hp : w'.heap[pb]? = some (.cells #[.slice (some ⟨bb, 0, none⟩) u.length cap] 53 (0, 0)) := (hT.keep pb (lt_of_heap h0) hne).trans h0
  refine ⟨by rw [h2, heap_set hp, List.length_append]; rfl, h3, h4, C', by rw [h2, heap_set_ne hne.symm]; exact g1, by omega, fun i hi => ?_⟩
  rw [List.length_append] at hi
  by_cases hiu : i < u.length
  · rw [g3 i (.inl (by omega)), h7 i hiu, List.getD_eq_getElem?_getD, List.getD_eq_getElem?_getD, List.getElem?_append_left hiu]
  · have := g4 (i - u.length) (by omega)
    rw [show 0 + u.length + (i - u.length) = i by omega] at this
    rw [this, List.getD_eq_getElem?_getD, List.getD_eq_getElem?_getD, List.getElem?_append_right (by omega)]

/-- The prefix is cut back. -/
theorem PB.cut {w w2 : World} {pb bb cap : Nat} {u v : Wd} (h : PB w pb bb cap (u ++ v)) (h2 : w2.heap = (w.setCell ⟨pb, 0, none⟩ (.slice (some ⟨bb, 0, none⟩) u.length cap)).heap) : PB w2 pb bb cap u := by
  have hne := h.ne
  obtain ⟨h0, h3, h4, C, h5, h6, h7⟩ := h
  refine ⟨by rw [h2, heap_set h0]; rfl, h3, h4, C, by rw [h2, heap_set_ne hne.symm]; exact h5, h6, fun i hi => ?_⟩
  rw [h7 i (by rw [List.length_append]; omega), List.getD_eq_getElem?_getD, List.getD_eq_getElem?_getD, List.getElem?_append_left hi]

/-- The nodes' records, the same but for the order of the children. -/
def NdP (N : Nat → Prop) (nd nd' : Nat → Nd) : Prop :=
  ∀ x, N x → (nd' x).np = (nd x).np ∧ (nd' x).sb = (nd x).sb ∧ (nd' x).so = (nd x).so ∧ (nd' x).sc = (nd x).sc ∧ (nd' x).px = (nd x).px ∧ (nd' x).it = (nd x).it ∧ (nd' x).mp = (nd x).mp ∧ (nd' x).mc = (nd x).mc ∧
    (nd' x).cl.l = (nd x).cl.l ∧ (nd' x).cl.a = (nd x).cl.a ∧ (nd' x).cl.val = (nd x).cl.val ∧ (nd' x).cl.kids.Perm (nd x).cl.kids

theorem NdP.refl (N : Nat → Prop) (nd : Nat → Nd) : NdP N nd nd := fun _ _ => ⟨rfl, rfl, rfl, rfl, rfl, rfl, rfl, rfl, rfl, rfl, rfl, List.Perm.refl _⟩
theorem NdP.trans {N : Nat → Prop} {nd nd' nd2 : Nat → Nd} (h : NdP N nd nd') (k : NdP N nd' nd2) : NdP N nd nd2 := fun x hx => by
  obtain ⟨a1, a2, a3, a4, a5, a6, a7, a8, a9, a10, a11, a12⟩ := h x hx
  obtain ⟨b1, b2, b3, b4, b5, b6, b7, b8, b9, b10, b11, b12⟩ := k x hx
  exact ⟨b1.trans a1, b2.trans a2, b3.trans a3, b4.trans a4, b5.trans a5, b6.trans a6, b7.trans a7, b8.trans a8, b9.trans a9, b10.trans a10, b11.trans a11, b12.trans a12⟩
theorem NdP.fb {N : Nat → Prop} {nd nd' : Nat → Nd} (h : NdP N nd nd') {x : Nat} (hx : N x) : (nd' x).fb = (nd x).fb := by unfold Nd.fb; rw [(h x hx).2.2.2.2.1]
theorem NdP.lf {m : Nat} {N : Nat → Prop} {nd nd' : Nat → Nd} (h : NdP N nd nd') (L : Lf m N nd) : Lf m N nd' := fun x hx => by
  obtain ⟨_, _, _, _, _, e6, _, _, _, _, _, e12⟩ := h x hx
  rw [e6, e12.length_eq]; exact L x hx

section
variable {w w' : World} {t : Nat} {mp : Int} {rp : List UInt8} {M : List UInt8 → Option Int} {O : Nat → Prop} {N : Nat → Prop} {nd nd' : Nat → Nd} {wd : Nat → List UInt8} {S : Nat → List UInt8} {sh : Nat → Nat}

theorem Inv.perm (I : Inv t N nd wd S sh) (h : NdP N nd nd') (hpl : ∀ p, N p → (nd' p).cl.placed (fun c => (nd' c).fb)) : Inv t N nd' wd S sh := by
  have km : ∀ p c, N p → (c ∈ (nd' p).cl.kids ↔ c ∈ (nd p).cl.kids) := fun p c hp => (h p hp).2.2.2.2.2.2.2.2.2.2.2.mem_iff
  refine ⟨I.root_mem, ?_, ?_, ?_, ?_, ?_, hpl, ?_, ?_, ?_, I.len, ?_⟩
  · rw [(h t I.root_mem).2.2.2.2.1]; exact I.root_wd
  · intro p hp hne; rw [(h p hp).1]; exact I.np p hp hne
  · intro p hp c hc
    obtain ⟨h1, h2, h3, h4⟩ := I.kid p hp c ((km p c hp).1 hc)
    exact ⟨h1, h2, by rw [(h c h1).2.2.2.2.1]; exact h3, by rw [(h c h1).2.2.2.2.1]; exact h4⟩
  · intro p hp c d hc hd e
    have hc := (km p c hp).1 hc
    have hd := (km p d hp).1 hd
    rw [h.fb (I.kid p hp c hc).1, h.fb (I.kid p hp d hd).1] at e
    exact I.ne p hp c d hc hd e
  · intro p hp; exact (h p hp).2.2.2.2.2.2.2.2.2.2.2.nodup_iff.2 (I.nodup p hp)
  · intro c hc hne
    obtain ⟨p, hp, hk⟩ := I.par c hc hne
    exact ⟨p, hp, (km p c hp).2 hk⟩
  · intro p q hp hq e; rw [(h p hp).2.2.2.2.2.2.2.2.1, (h q hq).2.2.2.2.2.2.2.2.1] at e; exact I.sepl p q hp hq e
  · intro p q hp hq e; rw [(h p hp).2.2.2.2.2.2.2.2.2.1, (h q hq).2.2.2.2.2.2.2.2.2.1] at e; exact I.sepa p q hp hq e
  · intro p hp hn
    rw [(h p hp).1] at hn
    rw [(h p hp).2.1, (h p hp).2.2.1, (h p hp).2.2.2.2.1]; exact I.chain p hp hn

/-- A sparse list's children are put in another order. -/
theorem TAw.sort (A : TAw w t mp rp M O N nd wd S sh) {p l a cap : Nat} {ks ks' : List Nat} (hp : N p) (hcl : (nd p).cl = .sp l a cap ks) (hperm : ks'.Perm ks) (hs : SrtW w a cap ks' w') :
    TAw w' t mp rp M O N (upd nd p { nd p with cl := .sp l a cap ks' }) wd S sh ∧ NdP N nd (upd nd p { nd p with cl := .sp l a cap ks' }) ∧ Tch w w' O := by
  have hNd : NdP N nd (upd nd p { nd p with cl := .sp l a cap ks' }) := fun x hx => by
    by_cases h : x = p
    · subst h; rw [upd_self, hcl]; exact ⟨rfl, rfl, rfl, rfl, rfl, rfl, rfl, rfl, rfl, rfl, rfl, hperm⟩
    · rw [upd_ne _ _ h]; exact ⟨rfl, rfl, rfl, rfl, rfl, rfl, rfl, rfl, rfl, rfl, rfl, List.Perm.refl _⟩
  obtain ⟨hT, hlen, C, hC1, hC2, hC3⟩ := hs
  have ha : (nd p).cl.a = a := by rw [hcl]; rfl
  have hl : (nd p).cl.l = l := by rw [hcl]; rfl
  have hraw := (A.T.H p hp).raw
  rw [hcl] at hraw
  obtain ⟨r1, r2, r3, _⟩ := hraw
  have keep : ∀ k, k < w.heap.size → k ≠ a → w'.heap[k]? = w.heap[k]? := fun k hk h => hT.keep k hk h
  have hI := A.T.I.perm hNd (fun q hq => by
    by_cases h : q = p
    · subst h; rw [upd_self]; trivial
    · rw [upd_ne _ _ h]
      exact placed_perm (A.T.I.placed q hq) (fun c hc => hNd.fb (A.T.I.kid q hq c hc).1))
  have hnd : ∀ x, N x → x ≠ p → upd nd p { nd p with cl := .sp l a cap ks' } x = nd x := fun x _ h => upd_ne _ _ h
  refine ⟨⟨⟨hI, fun x hx => ?_, ?_⟩, ⟨fun x hx => ?_, A.C.of⟩, fun x hx => ?_, fun k hk => Nat.lt_of_lt_of_le (A.lt k hk) hT.size, ?_, ?_⟩, hNd, hT.mono (fun b _ h => by rw [h, ← ha]; exact (A.own p hp).2.2.1)⟩
  · obtain ⟨o1, o2, o3, o4⟩ := A.own x hx
    by_cases h : x = p
    · subst h
      rw [upd_self]
      have hN := A.T.H x hx
      have nx : x ≠ a := by rw [← ha]; exact (A.T.a_ne hx hx).symm
      have nl : l ≠ a := by rw [← ha, ← hl]; exact A.T.la_ne hx hx
      refine ⟨?_, ⟨?_, ?_, r3, C, hC1, hC2, hC3⟩, hN.le, fun hn => ?_⟩
      · rw [keep x (A.lt _ o1) nx, hN.obj]
        unfold Nd.obj
        rw [hcl]
        rfl
      · rw [keep l (by rw [← hl]; exact A.lt _ o2) nl, r1, hperm.length_eq]
      · rw [hperm.length_eq]; exact r2
      · obtain ⟨D, fr, b1, b2, b3, b4⟩ := hN.blk hn
        have hsb := keep _ (A.lt _ o4) (by rw [← ha]; exact A.T.sa_ne hx hx)
        exact ⟨D, fr, hsb.trans b1, b2, fun i hi => by rw [frozen_same hsb]; exact b3 i hi, b4⟩
    · rw [hnd x hx h]
      exact (A.T.H x hx).frame (keep x (A.lt _ o1) (by rw [← ha]; exact (A.T.a_ne hp hx).symm)) (keep _ (A.lt _ o2) (by rw [← ha]; exact A.T.la_ne hx hp)) (keep _ (A.lt _ o3) (by rw [← ha]; exact fun e => h (A.T.I.sepa x p hx hp e))) (keep _ (A.lt _ o4) (by rw [← ha]; exact A.T.sa_ne hx hp))
  · by_cases h : t = p
    · subst h; rw [upd_self]; exact A.T.rn
    · rw [hnd t A.T.I.root_mem h]; exact A.T.rn
  · rw [(hNd x hx).2.2.2.2.2.1]; exact A.C.at_ x hx
  · obtain ⟨e1, e2, e3, e4, e5, e6, e7, e8, e9, e10, _⟩ := hNd x hx
    rw [e2, e9, e10]; exact A.own x hx
  · rw [(hNd t A.T.I.root_mem).2.2.2.2.2.2.1]; exact A.mp
  · rw [(hNd t A.T.I.root_mem).2.2.2.2.1]; exact A.rp
end

/-- The error of a visitor that wants the subtree to be skipped. -/
def skipV : Value := .iface 70 (.string ⟨#[83, 107, 105, 112, 32, 116, 104, 105, 115, 32, 115, 117, 98, 116, 114, 101, 101]⟩)
def errV (b : Bool) : Value := if b then skipV else .nilIface

/-- A visitor: it keeps the words that it was handed; of the trie and the prefix it touches nothing. -/
structure Visr (F : Nat) (binds : Array Value) (base : Nat) (bad : Nat → Prop) (skip : Wd → Bool) (V : List Wd → World → Prop) : Prop where
  enter : ∀ args w, (callFunc F args).run Try.prog w = .ok (.enter F args) w
  call : ∀ acc w K b o c x, V acc w → KS w b o K → bad b → K.length ≤ 1000 → acc.length ≤ 1000 → (∀ k, bad k → k < w.heap.size) → base ≤ w.heap.size →
    Calls Try.prog F (#[.slice (some ⟨b, o, none⟩) K.length c, .iface 3 (.int .i64 x)] ++ binds) w (fun e w' => e = .returned (errV (skip K)) ∧ V (acc ++ [K]) w' ∧ Tch w w' (fun k => ¬ bad k ∧ base ≤ k))
  keep : ∀ acc w w', V acc w → Tch w w' bad → V acc w'

end Go.Proofs.Ytmdbnjepajifpaa

/- Which words a walk hands to its visitor, and in which order. No memory here. -/
namespace Go.Proofs.Ytmdbnjepajifpaa
open Go.RowKit

/-- The words that a walk over all that lies beneath the word b visits. -/
def Und (M : Wd → Option Int) (skip : Wd → Bool) (b u : Wd) : Prop :=
  M u ≠ none ∧ b <+: u ∧ b.length < u.length ∧ ∀ s, s <+: u → b.length < s.length → s.length < u.length → M s ≠ none → skip s = false

/-- All words of acc come ahead of whatever lies beneath b. -/
def Bef (acc : List Wd) (b : Wd) : Prop := ∀ u, u ∈ acc → ∀ v, b <+: v → b.length < v.length → u < v

section
variable {w : World} {t : Nat} {mp : Int} {rp : List UInt8} {M : List UInt8 → Option Int} {O : Nat → Prop} {N : Nat → Prop} {nd : Nat → Nd} {wd : Nat → List UInt8} {S : Nat → List UInt8} {sh : Nat → Nat} {skip : Wd → Bool} {p c : Nat}

/-- Between a node's word and its child's there is no key. -/
theorem no_between (A : TAw w t mp rp M O N nd wd S sh) (hp : N p) (hc : c ∈ (nd p).cl.kids) {s : Wd} (h1 : s <+: wd c) (h2 : (wd p).length < s.length) (h3 : s.length < (wd c).length) : M s = none := by
  cases hm : M s with
  | none => rfl
  | some x =>
    exfalso
    obtain ⟨r, hr, e⟩ := A.C.of s (by rw [hm]; simp)
    have hpc := A.T.I.kid_pre hp hc
    have hps : wd p <+: s := List.prefix_of_prefix_length_le hpc h1 (by omega)
    rcases A.T.I.desc hp hr (by rw [e]; exact hps) with h | ⟨d, hd, h⟩
    · rw [h] at e; rw [e] at h2; omega
    · rw [e] at h
      have : d = c := A.T.I.same_kid hp hd hc (h.trans h1) (List.prefix_refl _)
      rw [this] at h
      have := h.length_le
      omega

/-- What is visited beneath p by way of its child c. -/
theorem und_kid (A : TAw w t mp rp M O N nd wd S sh) (hp : N p) (hc : c ∈ (nd p).cl.kids) (u : Wd) (hu : wd c <+: u) :
    Und M skip (wd p) u ↔ (u = wd c ∧ M (wd c) ≠ none) ∨ ((M (wd c) ≠ none → skip (wd c) = false) ∧ Und M skip (wd c) u) := by
  have hpc := A.T.I.kid_pre hp hc
  have hl := A.T.I.kid_longer hp hc
  have hul := hu.length_le
  constructor
  · rintro ⟨h1, h2, h3, h4⟩
    by_cases e : u = wd c
    · exact .inl ⟨e, by rw [← e]; exact h1⟩
    · right
      have hlt : (wd c).length < u.length := by
        rcases Nat.lt_or_ge (wd c).length u.length with h | h
        · exact h
        · exact absurd (hu.eq_of_length (by omega)).symm e
      exact ⟨fun hm => h4 (wd c) hu hl hlt hm, h1, hu, hlt, fun s hs hs1 hs2 hm => h4 s hs (by omega) hs2 hm⟩
  · rintro (⟨rfl, hm⟩ | ⟨hsk, h1, _, h3, h4⟩)
    · exact ⟨hm, hpc, hl, fun s hs hs1 hs2 hms => absurd (no_between A hp hc hs hs1 hs2) hms⟩
    · refine ⟨h1, hpc.trans hu, by omega, fun s hs hs1 hs2 hms => ?_⟩
      rcases Nat.lt_trichotomy s.length (wd c).length with h | h | h
      · exact absurd (no_between A hp hc (List.prefix_of_prefix_length_le hs hu (by omega)) hs1 h) hms
      · have : s = wd c := (List.prefix_of_prefix_length_le hs hu (by omega)).eq_of_length h
        rw [this] at hms ⊢
        exact hsk hms
      · exact h4 s hs h hs2 hms

/-- What is visited beneath p is visited by way of a child. -/
theorem und_some (A : TAw w t mp rp M O N nd wd S sh) (hp : N p) {u : Wd} (h : Und M skip (wd p) u) : ∃ c, c ∈ (nd p).cl.kids ∧ wd c <+: u := by
  obtain ⟨h1, h2, h3, _⟩ := h
  obtain ⟨r, hr, e⟩ := A.C.of u h1
  rcases A.T.I.desc hp hr (by rw [e]; exact h2) with h | ⟨c, hc, h⟩
  · rw [← e, h] at h3; omega
  · exact ⟨c, hc, by rw [← e]; exact h⟩

/-- One child more. -/
theorem und_step (A : TAw w t mp rp M O N nd wd S sh) (hp : N p) {done : List Nat} (hdone : ∀ d, d ∈ done → d ∈ (nd p).cl.kids) (hc : c ∈ (nd p).cl.kids) {L vis sub : List Wd} (hL : ∀ u, u ∈ L ↔ Und M skip (wd p) u ∧ ∃ d, d ∈ done ∧ wd d <+: u)
    (hv : ∀ u, u ∈ vis ↔ u = wd c ∧ M (wd c) ≠ none) (hs : ∀ u, u ∈ sub ↔ (M (wd c) ≠ none → skip (wd c) = false) ∧ Und M skip (wd c) u) :
    ∀ u, u ∈ L ++ vis ++ sub ↔ Und M skip (wd p) u ∧ ∃ d, d ∈ done ++ [c] ∧ wd d <+: u := by
  intro u
  rw [List.mem_append, List.mem_append, hL, hv, hs]
  constructor
  · rintro ((⟨h1, d, h2, h3⟩ | h) | h)
    · exact ⟨h1, d, by simp [h2], h3⟩
    · have hu : wd c <+: u := by rw [h.1]; exact List.prefix_refl _
      exact ⟨(und_kid A hp hc u hu).2 (.inl h), c, by simp, hu⟩
    · have hu : wd c <+: u := h.2.2.1
      exact ⟨(und_kid A hp hc u hu).2 (.inr h), c, by simp, hu⟩
  · rintro ⟨h1, d, h2, h3⟩
    rw [List.mem_append, List.mem_singleton] at h2
    rcases h2 with h2 | h2
    · exact .inl (.inl ⟨h1, d, h2, h3⟩)
    · subst h2
      rcases (und_kid A hp hc u h3).1 h1 with h | h
      · exact .inl (.inr h)
      · exact .inr h

/-- A word beneath an earlier child comes ahead of whatever begins with a later child's word. -/
theorem kids_lt (I : Inv t N nd wd S sh) (hp : N p) {d : Nat} (hd : d ∈ (nd p).cl.kids) (hc : c ∈ (nd p).cl.kids) (h : (nd d).px < (nd c).px) {u v : Wd} (hu : wd d <+: u) (hv : wd c <+: v) : u < v := by
  obtain ⟨_, _, wd1, nd1⟩ := I.kid p hp d hd
  obtain ⟨_, _, wc1, nc1⟩ := I.kid p hp c hc
  cases hx : (nd d).px with
  | nil => exact absurd hx nd1
  | cons x r =>
    cases hy : (nd c).px with
    | nil => exact absurd hy nc1
    | cons y r' =>
      rw [hx, hy] at h
      have hxy : x < y := by
        rcases List.cons_lt_cons_iff.1 h with h | ⟨h, h'⟩
        · exact h
        · exfalso
          have : d = c := I.ne p hp d c hd hc (by unfold Nd.fb; rw [hx, hy, h]; rfl)
          rw [this, hy] at hx
          injection hx with _ hx
          rw [hx] at h'
          exact wd_irrefl r h'
      refine byte_lt (u := wd p) (x := x) (y := y) ?_ ?_ hxy
      · refine List.IsPrefix.trans ?_ hu
        rw [wd1, hx]
        exact (List.prefix_append_right_inj _).2 (by simp)
      · refine List.IsPrefix.trans ?_ hv
        rw [wc1, hy]
        exact (List.prefix_append_right_inj _).2 (by simp)

/-- Whatever has been visited comes ahead of what begins with the next child's word. -/
theorem bef_kid (I : Inv t N nd wd S sh) (hp : N p) {done : List Nat} (hdone : ∀ d, d ∈ done → d ∈ (nd p).cl.kids) (hc : c ∈ (nd p).cl.kids) (hlt : ∀ d, d ∈ done → (nd d).px < (nd c).px) {acc L : List Wd} (hB : Bef acc (wd p)) (hL : ∀ u, u ∈ L ↔ Und M skip (wd p) u ∧ ∃ d, d ∈ done ∧ wd d <+: u) :
    ∀ u, u ∈ acc ++ L → ∀ v, wd c <+: v → u < v := by
  intro u hu v hv
  rw [List.mem_append] at hu
  rcases hu with hu | hu
  · have := I.kid_longer hp hc
    have h2 := hv.length_le
    exact hB u hu v ((I.kid_pre hp hc).trans hv) (by omega)
  · obtain ⟨_, d, h2, h3⟩ := (hL u).1 hu
    exact kids_lt I hp (hdone d h2) hc (hlt d h2) h3 hv

theorem srt_snoc {acc : List Wd} {u : Wd} (h : Srt acc) (hb : ∀ x, x ∈ acc → x < u) : Srt (acc ++ [u]) := by
  show List.Pairwise _ _
  rw [List.pairwise_append]
  exact ⟨h, List.pairwise_singleton _ _, fun a ha b hb' => by simp only [List.mem_singleton] at hb'; rw [hb']; exact hb a ha⟩
theorem bef_snoc {acc : List Wd} {u : Wd} (hb : ∀ x, x ∈ acc → ∀ v, u <+: v → x < v) : Bef (acc ++ [u]) u := by
  intro x hx v hv hl
  rw [List.mem_append, List.mem_singleton] at hx
  rcases hx with hx | hx
  · exact hb x hx v hv
  · rw [hx]; exact pre_lt hv hl
theorem bef_of {acc : List Wd} {u : Wd} (hb : ∀ x, x ∈ acc → ∀ v, u <+: v → x < v) : Bef acc u := fun x hx v hv _ => hb x hx v hv

/-- A list of words in order, all keys of a small map, is small. -/
theorem nodup_le {α : Type} : ∀ (L U : List α), L.Nodup → (∀ x, x ∈ L → x ∈ U) → L.length ≤ U.length
  | [], _, _, _ => Nat.zero_le _
  | x :: L, U, hn, hs => by
    obtain ⟨A, B, hU⟩ := List.append_of_mem (hs x (by simp))
    rw [List.nodup_cons] at hn
    have h := nodup_le L (A ++ B) hn.2 (fun y hy => by
      have h1 := hs y (by simp [hy])
      rw [hU] at h1
      simp only [List.mem_append, List.mem_cons] at h1 ⊢
      rcases h1 with h1 | h1 | h1
      · exact .inl h1
      · rw [h1] at hy; exact absurd hy hn.1
      · exact .inr h1)
    rw [hU]
    simp at h ⊢
    omega
end

end Go.Proofs.Ytmdbnjepajifpaa

/- The walk over a sparse list's children. -/
namespace Go.Proofs.Ytmdbnjepajifpaa
open Go.RowKit Go.Proofs.YtmdbnjepajifpaaW.PrintWords Go.Proofs.YtmdbnjepajifpaaW.PrintLast Go.Proofs.YtmdbnjepajifpaaW.PrintMore

set_option maxRecDepth 100000 in
/-- Bytes appended to bytes, in place. -/
theorem step_append_bytes_in {ops : Array Oper} {o : Oper} {a : Act} {W : World} {K : Act → World → Prop} {Q : Exit → Act → World → Prop} {E : Prop} (hg : o.guard = none) (s x : Operand)
    (hop : o.op = Op.call { callee := Callee.builtin Builtin.append, args := #[s, x], argTypes := #[53, 53] }) (w0 : World) (hsame : W.heap = w0.heap ∧ W.os = w0.os ∧ W.tape = w0.tape ∧ W.output = w0.output)
    (b off n cap : Nat) (hs : a.eval s = .slice (some ⟨b, off, none⟩) n cap) (xb xo m xc : Nat) (hx : a.eval x = .slice (some ⟨xb, xo, none⟩) m xc) (news : List UInt8) (hm : news.length = m)
    (hnw : KS w0 xb xo news) (hblk : ∃ (C : Array Value) (fr : Nat × Nat), w0.heap[b]? = some (.cells C 5 fr) ∧ off + cap ≤ C.size ∧ (∀ i, i < C.size → w0.frozen? ⟨b, i, none⟩ = false)) (hroom : n + m ≤ cap)
    (hK : ∀ w', Tch w0 w' (fun k => k = b) → (∀ C fr, w0.heap[b]? = some (.cells C 5 fr) → ∃ C', w'.heap[b]? = some (.cells C' 5 fr) ∧ C'.size = C.size ∧ (∀ i, i < off + n ∨ off + n + news.length ≤ i → C'[i]? = C[i]?) ∧ (∀ i, i < news.length → C'[off + n + i]? = some (.int .u8 ((news.getD i 0).toNat : Int)))) →
      K (a.put o.dst (.slice (some ⟨b, off, none⟩) (n + m) cap)) w') :
    if Region.wanted o (yielded ops a.tmps) = true then Oper.wp Try.prog o a W K Q else E := by
  obtain ⟨i0, hi, hz0, hz1, hz2⟩ := info_parts infoByte
  obtain ⟨s1, s2, s3, s4⟩ := hsame
  obtain ⟨C, fr, hC1, hC2, hC3⟩ := hblk
  have cW : ∀ p, W.cell? p = w0.cell? p := fun p => by simp [World.cell?, s1]
  have fW : ∀ p, W.frozen? p = w0.frozen? p := fun p => by simp [World.frozen?, s1]
  subst hm
  refine step_append_room hg s x 53 hop 5 i0 1 Try.underlying53 hi hz1 b off n cap hs ⟨xb, xo, none⟩ news.length xc (bytesV news) hx (by rw [bytesV_len]; omega) ?_ (bytesV_one _) hroom ?_ ?_
  · intro j u hj
    obtain ⟨hlt, rfl⟩ := bytesV_get _ _ _ hj
    rw [Addr.add_lit, cW]
    exact hnw j hlt
  · intro j hj
    rw [bytesV_len] at hj
    rw [cW, fW, Nat.mul_one, cell_of_block hC1, Array.getElem?_eq_getElem (by omega)]
    exact ⟨rfl, hC3 _ (by omega)⟩
  · obtain ⟨m1, m2, m3, m4⟩ := setCells_meta b (bytesV news) (off + n * 1) W
    refine hK _ ⟨m1.trans s2, m2.trans s3, m3.trans s4, by rw [m4, s1]; exact Nat.le_refl _, fun k _ hk => by rw [setCells_heap_ne b _ _ _ k hk, s1]⟩ (fun C2 fr2 h2 => ?_)
    rw [hC1] at h2
    injection h2 with h2
    injection h2 with e1 _ e2
    subst e1 e2
    obtain ⟨C', h1, h2, h3, h4⟩ := setCells_heap b 5 fr (bytesV news) (off + n * 1) W C (by rw [s1]; exact hC1)
    rw [Nat.mul_one] at h1 h3 h4
    rw [Nat.mul_one]
    exact ⟨C', h1, h2, fun i hi => h3 i (by rw [bytesV_len]; exact hi), fun i hi => h4 i _ (by omega) (bytesV_at _ _ hi)⟩

/-- What a walk needs and keeps: fixed things. -/
structure WFix (t : Nat) (M : Wd → Option Int) (O : Nat → Prop) (pb bb cap base : Nat) (F : Nat) (binds : Array Value) (skip : Wd → Bool) (V : List Wd → World → Prop) : Prop where
  vis : Visr F binds base (fun k => O k ∨ k = pb ∨ k = bb) skip V
  opb : ¬ O pb
  obb : ¬ O bb
  oge : ∀ k, O k → base ≤ k
  pge : base ≤ pb
  bge : base ≤ bb
  fin : ∃ U : List Wd, U.length ≤ 500 ∧ ∀ u, M u ≠ none → u ∈ U

/-- What is known where a walk over what lies beneath p begins. -/
structure WPre (t : Nat) (mp : Int) (rp : Wd) (M : Wd → Option Int) (O : Nat → Prop) (N : Nat → Prop) (wd : Nat → List UInt8) (S : Nat → List UInt8) (sh : Nat → Nat) (pb bb cap base : Nat) (V : List Wd → World → Prop) (nd : Nat → Nd) (p : Nat) (acc : List Wd) (w : World) : Prop where
  A : TAw w t mp rp M O N nd wd S sh
  hp : N p
  pbw : PB w pb bb cap (wd p)
  v : V acc w
  srt : Srt acc
  bef : Bef acc (wd p)
  mem : ∀ u, u ∈ acc → M u ≠ none
  bw : base ≤ w.heap.size

/-- What it leaves. -/
def WPost (t : Nat) (mp : Int) (rp : Wd) (M : Wd → Option Int) (O : Nat → Prop) (N : Nat → Prop) (wd : Nat → List UInt8) (S : Nat → List UInt8) (sh : Nat → Nat) (pb bb cap base : Nat) (skip : Wd → Bool) (V : List Wd → World → Prop) (nd : Nat → Nd) (p : Nat) (acc : List Wd) (w : World) (e : Ending) (w' : World) : Prop :=
  e = .returned .nilIface ∧ ∃ nd' L, TAw w' t mp rp M O N nd' wd S sh ∧ NdP N nd nd' ∧ (∀ x, N x → ¬ wd p <+: wd x → nd' x = nd x) ∧ PB w' pb bb cap (wd p) ∧ V (acc ++ L) w' ∧ Srt (acc ++ L) ∧ (∀ u, u ∈ L ↔ Und M skip (wd p) u) ∧ Tch w w' (fun k => base ≤ k)

section
variable {t : Nat} {mp : Int} {rp : Wd} {M : Wd → Option Int} {O : Nat → Prop} {N : Nat → Prop} {wd : Nat → List UInt8} {S : Nat → List UInt8} {sh : Nat → Nat} {pb bb cap base F : Nat} {binds : Array Value} {skip : Wd → Bool} {V : List Wd → World → Prop} {nd nd1 ndk : Nat → Nd} {p c l a cp : Nat} {acc L : List Wd} {w wr : World} {ks : List Nat}

/-- The loop over the children: the first k have been walked. -/
structure WLoop (t : Nat) (mp : Int) (rp : Wd) (M : Wd → Option Int) (O : Nat → Prop) (N : Nat → Prop) (wd : Nat → List UInt8) (S : Nat → List UInt8) (sh : Nat → Nat) (pb bb cap base : Nat) (skip : Wd → Bool) (V : List Wd → World → Prop) (nd nd1 : Nat → Nd) (p : Nat) (acc : List Wd) (w : World) (done : List Nat) (ndk : Nat → Nd) (L : List Wd) (wr : World) : Prop where
  A : TAw wr t mp rp M O N ndk wd S sh
  P : NdP N nd ndk
  at_ : ndk p = nd1 p
  oth : ∀ x, N x → ¬ wd p <+: wd x → ndk x = nd x
  pbw : PB wr pb bb cap (wd p)
  v : V (acc ++ L) wr
  srt : Srt (acc ++ L)
  mem : ∀ u, u ∈ L ↔ Und M skip (wd p) u ∧ ∃ d, d ∈ done ∧ wd d <+: u
  T : Tch w wr (fun k => base ≤ k)

theorem acc_len (fin : ∃ U : List Wd, U.length ≤ 500 ∧ ∀ u, M u ≠ none → u ∈ U) (h : Srt L) (hm : ∀ u, u ∈ L → M u ≠ none) : L.length ≤ 500 := by
  obtain ⟨U, h1, h2⟩ := fin
  exact Nat.le_trans (nodup_le L U h.nodup (fun x hx => h2 x (hm x hx))) h1

/-- The next child: all that the round needs of it. -/
theorem WLoop.kid (h : WLoop t mp rp M O N wd S sh pb bb cap base skip V nd nd1 p acc w ks ndk L wr) (hp : N p) (hc : c ∈ (ndk p).cl.kids) :
    N c ∧ wd c = wd p ++ (ndk c).px ∧ 0 < (ndk c).px.length ∧ (wd c).length ≤ 10 ∧ HN wr c (ndk c) ∧ (ndk c).np = false := by
  obtain ⟨h1, h2, h3, h4⟩ := h.A.T.I.kid p hp c hc
  exact ⟨h1, h3, List.length_pos_iff.2 h4, h.A.T.I.len c h1, h.A.T.H c h1, h.A.T.np h1 h2⟩
end

end Go.Proofs.Ytmdbnjepajifpaa

/- The walk over a sparse list's children, stepped through. -/
namespace Go.Proofs.Ytmdbnjepajifpaa
open Go.RowKit Go.Proofs.YtmdbnjepajifpaaW.PrintWords Go.Proofs.YtmdbnjepajifpaaW.PrintLast Go.Proofs.YtmdbnjepajifpaaW.PrintMore

/-- A walk over what lies beneath a node, as a call of its list's method. -/
def WalkIH (t : Nat) (mp : Int) (rp : Wd) (M : Wd → Option Int) (O : Nat → Prop) (N : Nat → Prop) (wd : Nat → List UInt8) (S : Nat → List UInt8) (sh : Nat → Nat) (pb bb cap base F : Nat) (binds : Array Value) (skip : Wd → Bool) (V : List Wd → World → Prop) (c : Nat) : Prop :=
  ∀ (w2 : World) (nd2 : Nat → Nd) (acc2 : List Wd), WPre t mp rp M O N wd S sh pb bb cap base V nd2 c acc2 w2 →
    Calls Try.prog ((nd2 c).cl.fn 120 152) #[.pointer (some ⟨(nd2 c).cl.l, 0, none⟩), .pointer (some ⟨pb, 0, none⟩), .func (.func F) #[] binds] w2 (WPost t mp rp M O N wd S sh pb bb cap base skip V nd2 c acc2 w2)

theorem eq_skip (w : World) : (binOp .eql 64 (.iface 70 (.string ⟨#[83, 107, 105, 112, 32, 116, 104, 105, 115, 32, 115, 117, 98, 116, 114, 101, 101]⟩)) (.iface 70 (.string ⟨#[83, 107, 105, 112, 32, 116, 104, 105, 115, 32, 115, 117, 98, 116, 114, 101, 101]⟩))).run Try.prog w = .ok (.bool true) w := by kernel_rfl
theorem ne_nil (w : World) : (binOp .neq 64 (.iface 70 (.string ⟨#[83, 107, 105, 112, 32, 116, 104, 105, 115, 32, 115, 117, 98, 116, 114, 101, 101]⟩)) .nilIface).run Try.prog w = .ok (.bool true) w := by kernel_rfl

section
variable {t : Nat} {mp : Int} {rp : Wd} {M : Wd → Option Int} {O : Nat → Prop} {N : Nat → Prop} {wd : Nat → List UInt8} {S : Nat → List UInt8} {sh : Nat → Nat} {pb bb cap base F : Nat} {binds : Array Value} {skip : Wd → Bool} {V : List Wd → World → Prop} {nd nd1 ndk : Nat → Nd} {p c l a cp : Nat} {acc L : List Wd} {w wr : World} {ks : List Nat}

/-- What is bad stays below the heap's end. -/
theorem WFix.bad (X : WFix t M O pb bb cap base F binds skip V) (A : TAw wr t mp rp M O N nd wd S sh) {u : Wd} (hp : PB wr pb bb cap u) : ∀ k, (O k ∨ k = pb ∨ k = bb) → k < wr.heap.size := by
  rintro k (h | h | h)
  · exact A.lt k h
  · rw [h]; exact lt_of_heap hp.1
  · obtain ⟨_, _, _, C, h1, _⟩ := hp
    rw [h]; exact lt_of_heap h1

/-- The sort of the children: the loop may begin. -/
theorem walk_start (X : WFix t M O pb bb cap base F binds skip V) (H : WPre t mp rp M O N wd S sh pb bb cap base V nd p acc w) (hcl : (nd p).cl = .sp l a cp ks) {e : Ending} {w1 : World} (hS : SortP w a cp (fun c => (nd c).px) ks e w1) :
    e = .returned (.tuple #[]) ∧ ∃ ks', ks'.Perm ks ∧ NSrt (fun c => (nd c).px) ks' ∧ WLoop t mp rp M O N wd S sh pb bb cap base skip V nd (upd nd p { nd p with cl := .sp l a cp ks' }) p acc w [] (upd nd p { nd p with cl := .sp l a cp ks' }) [] w1 ∧ (upd nd p { nd p with cl := .sp l a cp ks' } p).cl = .sp l a cp ks' := by
  obtain ⟨he, ks', hs, hp, hn⟩ := hS
  obtain ⟨A1, P1, T1⟩ := H.A.sort H.hp hcl hp hs
  have ha : (nd p).cl.a = a := by rw [hcl]; rfl
  have hTa : Tch w w1 (fun k => k = a) := hs.1
  have hpa : pb ≠ a := by rw [← ha]; exact fun e => X.opb (by rw [e]; exact (H.A.own p H.hp).2.2.1)
  have hba : bb ≠ a := by rw [← ha]; exact fun e => X.obb (by rw [e]; exact (H.A.own p H.hp).2.2.1)
  refine ⟨he, ks', hp, hn, ⟨A1, P1, rfl, fun x hx hne => upd_ne _ _ (fun e => hne (by rw [e]; exact List.prefix_refl _)), H.pbw.keep hTa hpa hba, ?_, by rw [List.append_nil]; exact H.srt, fun u => ?_, T1.mono (fun b _ h => X.oge b h)⟩, by rw [upd_self]⟩
  · rw [List.append_nil]
    exact X.vis.keep acc w w1 H.v (T1.mono (fun b _ h => .inl h))
  · constructor
    · intro h; cases h
    · rintro ⟨_, d, h, _⟩; cases h

/-- All children have been walked. -/
theorem WLoop.post (h : WLoop t mp rp M O N wd S sh pb bb cap base skip V nd nd1 p acc w ks ndk L wr) (hp : N p) (hk : ∀ c, c ∈ (ndk p).cl.kids → c ∈ ks) : WPost t mp rp M O N wd S sh pb bb cap base skip V nd p acc w (.returned .nilIface) wr := by
  refine ⟨rfl, ndk, L, h.A, h.P, h.oth, h.pbw, h.v, h.srt, fun u => ?_, h.T⟩
  rw [h.mem]
  constructor
  · rintro ⟨h1, _⟩; exact h1
  · intro h1
    obtain ⟨c, hc, h2⟩ := und_some h.A hp h1
    exact ⟨h1, c, hk c hc, h2⟩

/-- Behind the append of a child's part to the prefix. -/
theorem walk_in (X : WFix t M O pb bb cap base F binds skip V) (h : WLoop t mp rp M O N wd S sh pb bb cap base skip V nd nd1 p acc w ks ndk L wr) (hp : N p) (hc : c ∈ (ndk p).cl.kids) {w' W2 : World} (hT : Tch wr w' (fun k => k = bb))
    (hC : ∀ C fr, wr.heap[bb]? = some (.cells C 5 fr) → ∃ C', w'.heap[bb]? = some (.cells C' 5 fr) ∧ C'.size = C.size ∧ (∀ i, i < 0 + (wd p).length ∨ 0 + (wd p).length + (ndk c).px.length ≤ i → C'[i]? = C[i]?) ∧ (∀ i, i < (ndk c).px.length → C'[0 + (wd p).length + i]? = some (.int .u8 (((ndk c).px.getD i 0).toNat : Int))))
    (h2 : W2 = w'.setCell ⟨pb, 0, none⟩ (.slice (some ⟨bb, 0, none⟩) ((wd p).length + (ndk c).px.length) cap)) :
    TAw W2 t mp rp M O N ndk wd S sh ∧ PB W2 pb bb cap (wd c) ∧ V (acc ++ L) W2 ∧ Tch w W2 (fun k => base ≤ k) := by
  obtain ⟨_, hw, _, h10, _, _⟩ := h.kid hp hc
  have hT2 : Tch wr W2 (fun k => k = pb ∨ k = bb) := by
    rw [h2]; exact (hT.mono (fun _ _ h => .inr h)).setCell _ _ (fun _ => .inl rfl)
  have hl : (wd p).length + (ndk c).px.length ≤ cap := by
    have := congrArg List.length hw
    rw [List.length_append] at this
    have := h.pbw.2.1
    omega
  refine ⟨h.A.later (fun k hk => hT2.keep k (h.A.lt k hk) (fun e => by rcases e with e | e; exact X.opb (e ▸ hk); exact X.obb (e ▸ hk))) hT2.size, ?_, X.vis.keep _ _ _ h.v (hT2.mono (fun b _ h => .inr h)), h.T.trans hT2 (fun b _ e => by rcases e with e | e; rw [e]; exact X.pge; rw [e]; exact X.bge)⟩
  rw [hw]
  exact h.pbw.grow hl hT hC (by rw [h2])

/-- The visitor's own word. -/
def visL (M : Wd → Option Int) (u : Wd) : List Wd := if (M u).isSome then [u] else []
theorem visL_mem (M : Wd → Option Int) (u v : Wd) : v ∈ visL M u ↔ v = u ∧ M u ≠ none := by
  unfold visL
  cases h : M u with
  | none => simp
  | some x => simp

/-- Behind a child: the prefix is cut back, the loop goes on. -/
theorem walk_back (X : WFix t M O pb bb cap base F binds skip V) (h : WLoop t mp rp M O N wd S sh pb bb cap base skip V nd nd1 p acc w ks ndk L wr) (hp : N p) (hks : ∀ d, d ∈ ks → d ∈ (ndk p).cl.kids) (hc : c ∈ (ndk p).cl.kids) {W3 W4 : World} {nd3 : Nat → Nd} {sub : List Wd}
    (A3 : TAw W3 t mp rp M O N nd3 wd S sh) (P3 : NdP N ndk nd3) (o3 : ∀ x, N x → ¬ wd c <+: wd x → nd3 x = ndk x) (pb3 : PB W3 pb bb cap (wd c)) (v3 : V (acc ++ (L ++ visL M (wd c) ++ sub)) W3) (s3 : Srt (acc ++ (L ++ visL M (wd c) ++ sub)))
    (hsub : ∀ u, u ∈ sub ↔ (M (wd c) ≠ none → skip (wd c) = false) ∧ Und M skip (wd c) u) (T3 : Tch w W3 (fun k => base ≤ k))
    (h4 : W4.heap = (W3.setCell ⟨pb, 0, none⟩ (.slice (some ⟨bb, 0, none⟩) (wd p).length cap)).heap) (hm : W4.os = W3.os ∧ W4.tape = W3.tape ∧ W4.output = W3.output) :
    WLoop t mp rp M O N wd S sh pb bb cap base skip V nd nd1 p acc w (ks ++ [c]) nd3 (L ++ visL M (wd c) ++ sub) W4 := by
  obtain ⟨hcN, hw, hpx, h10, _, _⟩ := h.kid hp hc
  have hlt := h.A.T.I.kid_longer hp hc
  have hT4 : Tch W3 W4 (fun k => k = pb) := ⟨hm.1, hm.2.1, hm.2.2, by rw [h4]; simp, fun k _ hk => by rw [h4, heap_set_ne hk]⟩
  have hpc : ¬ wd c <+: wd p := fun e => by have := e.length_le; omega
  refine ⟨A3.later (fun k hk => hT4.keep k (A3.lt k hk) (fun e => X.opb (e ▸ hk))) hT4.size, h.P.trans P3, (o3 p hp hpc).trans h.at_, fun x hx hne => ?_, ?_, X.vis.keep _ _ _ v3 (hT4.mono (fun b _ h => .inr (.inl h))), s3, ?_, T3.trans hT4 (fun b _ e => by rw [e]; exact X.pge)⟩
  · rw [o3 x hx (fun e => hne ((h.A.T.I.kid_pre hp hc).trans e)), h.oth x hx hne]
  · have h3 := pb3
    rw [hw] at h3
    exact h3.cut (by rw [h4])
  · exact und_step h.A hp hks hc h.mem (visL_mem M (wd c)) hsub
end

end Go.Proofs.Ytmdbnjepajifpaa
