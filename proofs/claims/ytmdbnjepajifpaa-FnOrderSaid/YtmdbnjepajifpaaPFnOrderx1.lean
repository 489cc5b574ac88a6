-- PRINTED BY print.sh 35421559b90ae4d0a3588c463048766b98c2df88dd9212a6774a882060cdf62d: not written by this session
import Derived.Test.YtmdbnjepajifpaaPFnOrderx0
namespace Go.Proofs.Ytmdbnjepajifpaa.PFnOrder
open Go.RowKit Go.Proofs.YtmdbnjepajifpaaW.PrintWords Go.Proofs.YtmdbnjepajifpaaW.PrintLast Go.Proofs.YtmdbnjepajifpaaW.PrintMore
attribute [local go_sem] max2_int min2_int max_two min_two max_three min_three max_four min_four   -- for this text's walks alone
set_option linter.unusedVariables false
set_option linter.unusedSimpArgs false

/-! ### spec_Word: function 37 -/
mutual
def spec_Word.j0 : Nat → List Int → Int → Int → Option (ByteArray × Int)
  | 0, _, _, _ => none
  | k + 1, x0, x4, x5 => spec_Word.l0 k x0 x4 x5 (([] : List Int)) 1
def spec_Word.l0 : Nat → List Int → Int → Int → List Int → Int → Option (ByteArray × Int)
  | 0, _, _, _, _, _ => none
  | k + 1, x0, x4, x5, x6, x7 => if x7 ≤ x4 then (if x7 < (x0.length : Int) then (if 0 ≤ x7 then (if x5 = 0 then (none) else (if x6.length < 140737488355328 then (spec_Word.l0 k x0 x4 4 (x6 ++ [(97 + (Int.tmod (rd x0 x7) x5)) % 256]) (wrap64 (x7 + 1))) else (none))) else (none)) else (if (x6.length : Int) = 0 then (some (strOfNums (([97] : List Int)), mn (wrap64 (x4 + 1)) (x0.length : Int))) else (some (strOfNums x6, mn (wrap64 (x4 + 1)) (x0.length : Int))))) else (if (x6.length : Int) = 0 then (some (strOfNums (([97] : List Int)), mn (wrap64 (x4 + 1)) (x0.length : Int))) else (some (strOfNums x6, mn (wrap64 (x4 + 1)) (x0.length : Int))))
end
def spec_Word.f (k : Nat) (l0 : List Int) : Option (ByteArray × Int) := if (l0.length : Int) = 0 then (some ((⟨#[97]⟩ : ByteArray), 0)) else (if 0 < (l0.length : Int) then (if (rd l0 0) ≥ 192 then (spec_Word.j0 k l0 (wrap64 (1 + (Int.tmod (wrap64 (rd l0 0)) 5))) 26) else (spec_Word.j0 k l0 (wrap64 (1 + (Int.tmod (wrap64 (rd l0 0)) 5))) 4)) else (none))
theorem spec_Word.mono_l : ∀ k, (∀ y0 y1 y2, LeO (spec_Word.j0 k y0 y1 y2) (spec_Word.j0 (k + 1) y0 y1 y2)) ∧ (∀ y0 y1 y2 y3 y4, LeO (spec_Word.l0 k y0 y1 y2 y3 y4) (spec_Word.l0 (k + 1) y0 y1 y2 y3 y4))
  | 0 => ⟨fun _ _ _ r h => by simp [spec_Word.j0] at h, fun _ _ _ _ _ r h => by simp [spec_Word.l0] at h⟩
  | k + 1 => by
    obtain ⟨ih0, ih1⟩ := spec_Word.mono_l k
    refine ⟨?_, ?_⟩
    · intro y0 y1 y2
      unfold spec_Word.j0
      repeat' first
      | (with_reducible exact ih0 _ _ _)
      | (with_reducible exact ih1 _ _ _ _ _)
      | (with_reducible exact LeO.refl _)
      | (with_reducible exact LeO.none _)
      | (with_reducible refine LeO.ite ?_ ?_)
      | (with_reducible refine LeO.bind ?_ (fun _ => ?_))
      | exact ih0 _ _ _
      | exact ih1 _ _ _ _ _
      | exact LeO.none _
      | refine LeO.ite ?_ ?_
      | refine LeO.bind ?_ (fun _ => ?_)
    · intro y0 y1 y2 y3 y4
      unfold spec_Word.l0
      repeat' first
      | (with_reducible exact ih0 _ _ _)
      | (with_reducible exact ih1 _ _ _ _ _)
      | (with_reducible exact LeO.refl _)
      | (with_reducible exact LeO.none _)
      | (with_reducible refine LeO.ite ?_ ?_)
      | (with_reducible refine LeO.bind ?_ (fun _ => ?_))
      | exact ih0 _ _ _
      | exact ih1 _ _ _ _ _
      | exact LeO.none _
      | refine LeO.ite ?_ ?_
      | refine LeO.bind ?_ (fun _ => ?_)
theorem spec_Word.mono : ∀ a0 k, LeO (spec_Word.f k a0) (spec_Word.f (k + 1) a0) := by
  intro a0 k
  obtain ⟨ih0, ih1⟩ := spec_Word.mono_l k
  unfold spec_Word.f
  repeat' first
      | (with_reducible exact ih0 _ _ _)
      | (with_reducible exact ih1 _ _ _ _ _)
      | (with_reducible exact LeO.refl _)
      | (with_reducible exact LeO.none _)
      | (with_reducible refine LeO.ite ?_ ?_)
      | (with_reducible refine LeO.bind ?_ (fun _ => ?_))
      | exact ih0 _ _ _
      | exact ih1 _ _ _ _ _
      | exact LeO.none _
      | refine LeO.ite ?_ ?_
      | refine LeO.bind ?_ (fun _ => ?_)
set_option maxHeartbeats 8000000 in
set_option maxRecDepth 100000 in
theorem spec_Word.calls (k : Nat) (A0 : Option Addr) (c0 : Nat) (l0 : List Int) (r1 : ByteArray) (r2 : Int) (w : World) (hr0 : Kd.C (Kd.int .u8) w A0 l0.length l0) (hc0 : l0.length ≤ c0) (h : spec_Word.f k l0 = some (r1, r2)) :
    Calls Try.prog 37 #[.slice A0 l0.length c0] w fun e w' => e = .returned (.tuple #[.string r1, .int .i64 r2]) ∧ Below w.heap.size w w' := by
  have HR0 := Aside0.mk hr0
  have HC0 := Aside0.mk hc0
  clear hr0 hc0
  have HB := Aside0.mk (Below.refl w.heap.size w)
  have H : (if (l0.length : Int) = 0 then (some ((⟨#[97]⟩ : ByteArray), 0)) else (if 0 < (l0.length : Int) then (if (rd l0 0) ≥ 192 then (spec_Word.j0 k l0 (wrap64 (1 + (Int.tmod (wrap64 (rd l0 0)) 5))) 26) else (spec_Word.j0 k l0 (wrap64 (1 + (Int.tmod (wrap64 (rd l0 0)) 5))) 4)) else (none))) = some (r1, r2) := h
  clear h
  by_cases c2 : (l0.length : Int) = 0
  · rw [if_pos c2] at H
    have c2b0 : ((l0.length : Int) == 0) = true := beq_iff_eq.mpr c2
    have c2b1 : ((l0.length : Int) != 0) = false := bne_eq_false_iff_eq.mpr c2
    clear c2
    simp only [Option.some.injEq, Prod.mk.injEq] at H
    obtain ⟨rfl, rfl⟩ := H
    go_enter Try.func37, Try.ntmps37
    go_wp2
    go_ret2
    exact ⟨by first | rfl | (simp [errW_none, errW_some] <;> rfl) | (simp [*, errW_none, errW_some] <;> rfl), by repeat (first | (with_reducible first | exact HB.out | apply below_alloc | apply pw_below_drewN | apply below_drew1) | exact HB.out)⟩
  · rw [if_neg c2] at H
    have c2b0 : ((l0.length : Int) == 0) = false := beq_eq_false_iff_ne.mpr c2
    have c2b1 : ((l0.length : Int) != 0) = true := bne_iff_ne.mpr c2
    have c2b2 : ¬ (l0 = []) := fun h_ => c2 (by rw [h_]; rfl)
    by_cases c3 : 0 < (l0.length : Int)
    · rw [if_pos c3] at H
      have c3b0 : decide (0 < (l0.length : Int)) = true := decide_eq_true c3
      have c3b1 : decide (0 < l0.length) = true := decide_eq_true (by omega)
      clear c3
      have HC4 := Aside0.mk H
      clear H
      have p101 : 0 ≤ (0 : Int) := (by omega)
      have q101 : 0 < (l0.length : Int) := of_decide_eq_true (by first | (with_reducible assumption) | assumption)
      obtain ⟨ad101, e101, hx101_0⟩ := Kd.at_int HR0.out 0 p101 q101
      cases e101
      have qi101 : (0 < l0.length) = True := eq_true (by omega)
      (try rw [show ((0 : Int)).toNat = 0 from rfl] at hx101_0)
      (try rw [Addr.add_zero'] at hx101_0)
      replace p101 := eq_true p101
      replace q101 := eq_true q101
      have p102 : 0 ≤ (0 : Int) := (by omega)
      have q102 : 0 < (l0.length : Int) := of_decide_eq_true (by first | (with_reducible assumption) | assumption)
      obtain ⟨ad102, e102, hx102_0⟩ := Kd.at_int HR0.out 0 p102 q102
      obtain rfl : ad101 = ad102 := (by injection e102)
      have qi102 : (0 < l0.length) = True := eq_true (by omega)
      (try rw [show ((0 : Int)).toNat = 0 from rfl] at hx102_0)
      (try rw [Addr.add_zero'] at hx102_0)
      replace p102 := eq_true p102
      replace q102 := eq_true q102
      go_enter Try.func37, Try.ntmps37
      go_upto_if 20 with (fail)
      go_cut [5] (fun v5 wc => ∃ (kq : Nat) (x5_3 : Int), v5 = .int .u8 x5_3 ∧ Aside0 (spec_Word.j0 kq l0 (wrap64 (1 + (Int.tmod (wrap64 (rd l0 0)) 5))) x5_3 = some (r1, r2)) ∧ Aside0 (kq ≤ k) ∧ Aside0 (Below w.heap.size w wc))
      case first =>
        have H := HC4.out
        clear HC4
        by_cases c5 : (rd l0 0) ≥ 192
        · rw [if_pos c5] at H
          have c5b0 : decide (192 ≤ (rd l0 0)) = true := decide_eq_true c5
          clear c5
          (first | rw [c5b0] | (simp only [i64_w, i32_w]; rw [c5b0]) | skip)
          have H' := Aside0.mk H
          clear H
          go_wp2
          go_meet
          case rel => exact ⟨_, (26), (by first | rfl | (simp; done) | (simp [*]; done)), H', ⟨by first | omega | exact Nat.le_refl _⟩, ⟨by repeat (first | (with_reducible first | exact HB.out | apply below_alloc | apply pw_below_drewN | apply below_drew1) | exact HB.out)⟩⟩
        · rw [if_neg c5] at H
          have c5b0 : decide (192 ≤ (rd l0 0)) = false := decide_eq_false c5
          clear c5
          (first | rw [c5b0] | (simp only [i64_w, i32_w]; rw [c5b0]) | skip)
          have H' := Aside0.mk H
          clear H
          go_wp2
          go_meet
          case rel => exact ⟨_, (4), (by first | rfl | (simp; done) | (simp [*]; done)), H', ⟨by first | omega | exact Nat.le_refl _⟩, ⟨by repeat (first | (with_reducible first | exact HB.out | apply below_alloc | apply pw_below_drewN | apply below_drew1) | exact HB.out)⟩⟩
      case rest =>
        clear HC4
        try clear p1
        try clear q1
        try clear hx1
        try clear qi1
        try clear c2
        try clear c2b0
        try clear c2b1
        try clear c2b2
        try clear p2
        try clear c3
        try clear c3b0
        try clear c3b1
        try clear c5
        try clear c5b0
        try clear hx101_0
        try clear hx102_0
        try clear p101
        try clear p102
        try clear q101
        try clear q102
        obtain ⟨kq, x5_3, rfl, HA, HJ3, HB⟩ := hcut
        cases kq with
        | zero => exact absurd HA.out (by simp [spec_Word.j0])
        | succ kj3 =>
          have H := HA.out
          clear HA
          simp only [spec_Word.j0] at H
          obtain ⟨y103, hy103⟩ : ∃ y_ : List Int, y_ = (([] : List Int)) := ⟨_, rfl⟩
          replace H : (spec_Word.l0 kj3 l0 (wrap64 (1 + (Int.tmod (wrap64 (rd l0 0)) 5))) x5_3 y103 1) = some (r1, r2) := by first | (rw [hy103]; with_reducible exact H) | (have H2_ := (Option.bind_some _ _).symm.trans H; rw [hy103]; with_reducible exact H2_) | (have H2_ := (Option.bind_some _ _).symm.trans H; with_reducible exact H2_) | with_reducible exact H | (rw [hy103]; exact H) | exact H
          have Ny103 := Aside0.mk hy103
          clear hy103
          have H' := Aside0.mk H
          clear H
          go_wp2_with (first | ((with_reducible refine gate_dst (N := 21) rfl ?_); (try (refine gate_guard (by rfl) ?_; dsimp only)); refine Kd.R_lit (Kd.int .u8) _ 5 ?hg (N := 21) ?hd (xs := ([] : List Int)) (inner := []) (ok := fun _ => True) (okp := fun _ => True) ?hr ?hp (fun _ hk => hk) trivial (Below.refl _ _) (Nat.le_refl _) (by simp) ?_; (case hd => rfl); (case hg => rfl); (case hr => first | (go_simp; done) | (go_simp; rfl)); (case hp => exact (Reps.none _ _)); intro v104 w6 ho7 hb hg_ hnew_; clear hg_ hnew_; (first | rw [← Ny103.out] at ho7 | (simp only [Int.reduceToNat] at ho7; rw [← Ny103.out] at ho7)); have n0_ := Aside0.mk (Kd.R_lower ho7 (below_size (by repeat (first | (with_reducible first | exact HB.out | apply below_alloc | apply pw_below_drewN | apply below_drew1) | exact HB.out)))); have n1_ := Aside0.mk (below_step (by repeat (first | (with_reducible first | exact HB.out | apply below_alloc | apply pw_below_drewN | apply below_drew1) | exact HB.out)) hb); clear HB; have HO105 := n0_; have HB := n1_; clear n0_ n1_; clear hb ho7))
          go_loopg [5, 6, 7] kj3 (fun kq v5 v6 v7 w' => ∃ (x5_2 : Int) (x6_2 : List Int) (x7_2 : Int), v5 = .int .u8 x5_2 ∧ v7 = .int .i64 x7_2 ∧ Aside0 (spec_Word.l0 kq l0 (wrap64 (1 + (Int.tmod (wrap64 (rd l0 0)) 5))) x5_2 x6_2 x7_2 = some (r1, r2)) ∧ Aside0 (kq ≤ kj3) ∧ Aside0 (Kd.R (Kd.int .u8) 5 w' w.heap.size (fun _ => True) v6 x6_2) ∧ Aside0 (Below w.heap.size w w'))
          case atStart => exact ⟨(x5_3), (y103), (1), (by first | rfl | (simp; done) | (simp [*]; done)), (by first | rfl | (simp; done) | (simp [*]; done)), H', ⟨Nat.le_refl _⟩, ⟨by (with_reducible repeat (first | apply Kd.R_alloc | apply Kd.R_drewN | apply Kd.R_drew)); exact HO105.out⟩, ⟨by repeat (first | (with_reducible first | exact HB.out | apply below_alloc | apply pw_below_drewN | apply below_drew1) | exact HB.out)⟩⟩
          case round =>
            clear H'
            try clear p1
            try clear q1
            try clear hx1
            try clear qi1
            try clear c2
            try clear c2b0
            try clear c2b1
            try clear c2b2
            try clear p2
            try clear c3
            try clear c3b0
            try clear c3b1
            try clear c5
            try clear c5b0
            try clear p6
            try clear hx101_0
            try clear hx102_0
            try clear p1
            try clear p101
            try clear p102
            try clear p2
            try clear q1
            try clear q101
            try clear q102
            obtain ⟨x5_2, x6_2, x7_2, rfl, rfl, HA, HK2, HO_6, HB⟩ := hrel
            cases gk with
            | zero => exact absurd HA.out (by simp [spec_Word.l0])
            | succ k2 =>
              have H := HA.out
              clear HA
              simp only [spec_Word.l0] at H
              by_cases c8 : x7_2 ≤ (wrap64 (1 + (Int.tmod (wrap64 (rd l0 0)) 5)))
              · rw [if_pos c8] at H
                have c8b0 : decide (x7_2 ≤ (wrap64 (1 + (Int.tmod (wrap64 (rd l0 0)) 5)))) = true := decide_eq_true c8
                clear c8
                by_cases c9 : x7_2 < (l0.length : Int)
                · rw [if_pos c9] at H
                  have c9b0 : decide (x7_2 < (l0.length : Int)) = true := decide_eq_true c9
                  clear c9
                  by_cases c10 : 0 ≤ x7_2
                  · rw [if_pos c10] at H
                    have c10b0 : decide (0 ≤ x7_2) = true := decide_eq_true c10
                    clear c10
                    by_cases c11 : x5_2 = 0
                    · rw [if_pos c11] at H
                      exact absurd H (by simp)
                    · rw [if_neg c11] at H
                      have c11b0 : (x5_2 == 0) = false := beq_eq_false_iff_ne.mpr c11
                      have c11b1 : (x5_2 != 0) = true := bne_iff_ne.mpr c11
                      by_cases c12 : x6_2.length < 140737488355328
                      · rw [if_pos c12] at H
                        have LMc12 := Aside0.mk c12
                        clear c12
                        obtain ⟨y107, hy107⟩ : ∃ y_ : List Int, y_ = (x6_2 ++ [(97 + (Int.tmod (rd l0 x7_2) x5_2)) % 256]) := ⟨_, rfl⟩
                        replace H : (spec_Word.l0 k2 l0 (wrap64 (1 + (Int.tmod (wrap64 (rd l0 0)) 5))) 4 y107 (wrap64 (x7_2 + 1))) = some (r1, r2) := by first | (rw [hy107]; with_reducible exact H) | (have H2_ := (Option.bind_some _ _).symm.trans H; rw [hy107]; with_reducible exact H2_) | (have H2_ := (Option.bind_some _ _).symm.trans H; with_reducible exact H2_) | with_reducible exact H | (rw [hy107]; exact H) | exact H
                        have Ny107 := Aside0.mk hy107
                        clear hy107
                        have H' := Aside0.mk H
                        clear H
                        have p106 : 0 ≤ (x7_2 : Int) := of_decide_eq_true (by first | (with_reducible assumption) | assumption)
                        have q106 : x7_2 < (l0.length : Int) := of_decide_eq_true (by first | (with_reducible assumption) | assumption)
                        obtain ⟨ad106, e106, hx106_0⟩ := Kd.at_int HR0.out x7_2 p106 q106
                        obtain rfl : ad101 = ad106 := (by injection e106)
                        replace hx106_0 := (HB.out.cell (World.block_lt_of_cell? w _ hx106_0)).trans hx106_0
                        replace p106 := eq_true p106
                        replace q106 := eq_true q106
                        go_wp2_with (first | ((with_reducible refine gate_builtin (b := .append) (xs := #[.tmp 33, .tmp 41]) rfl ?_); (try (refine gate_guard (by rfl) ?_; dsimp only)); at_builtin; refine Kd.R_append (Kd.int .u8) (w0 := w) w.heap.size rfl (.tmp 33) (.tmp 41) 22 5 (.int .u8 0) 1 rfl Try.underlying22 info5 rfl (by decide) (by omega) u6 x6_2 ((97 + (Int.tmod (rd l0 x7_2) x5_2)) % 256) [.int .u8 ((97 + (Int.tmod (rd l0 x7_2) x5_2)) % 256)] (fun _ => True) (fun _ => False) rfl rfl ?aP (fun _ hk => hk.elim) ?aF ?aO ?aB ?aS ?aL ?_; (case aP => exact rfl); (case aB => exact (by repeat (first | (with_reducible first | exact HB.out | apply below_alloc | apply pw_below_drewN | apply below_drew1) | exact HB.out))); (case aF => exact (fun _ _ => trivial)); (case aO => exact (by (with_reducible repeat (first | apply Kd.R_alloc | apply Kd.R_drewN | apply Kd.R_drew)); exact HO_6.out)); (case aS => exact (below_size (by repeat (first | (with_reducible first | exact HB.out | apply below_alloc | apply pw_below_drewN | apply below_drew1) | exact HB.out)))); (case aL => have := LMc12.out; omega); intro v108 w13 ho hb hg hat; rw [← Ny107.out] at ho; have n0_ := Aside0.mk (hb); have n1_ := Aside0.mk (ho); clear HB; clear HO_6; have HB := n0_; have HO109 := n1_; clear n0_ n1_; clear ho hb hg hat))
                        go_roundg k2
                        case measure => have := HJ3.out; have := HK2.out; omega
                        case rel => exact ⟨(4), (y107), (wrap64 (x7_2 + 1)), (by first | rfl | (simp; done) | (simp [*]; done)), (by first | rfl | (simp; done) | (simp [*]; done)), H', ⟨by have := HJ3.out; have := HK2.out; omega⟩, ⟨by (with_reducible repeat (first | apply Kd.R_alloc | apply Kd.R_drewN | apply Kd.R_drew)); exact HO109.out⟩, ⟨by repeat (first | (with_reducible first | exact HB.out | apply below_alloc | apply pw_below_drewN | apply below_drew1) | exact HB.out)⟩⟩
                      · rw [if_neg c12] at H
                        exact absurd H (by simp)
                  · rw [if_neg c10] at H
                    exact absurd H (by simp)
                · rw [if_neg c9] at H
                  have c9b0 : decide (x7_2 < (l0.length : Int)) = false := decide_eq_false c9
                  clear c9
                  by_cases c14 : (x6_2.length : Int) = 0
                  · rw [if_pos c14] at H
                    have c14b0 : ((x6_2.length : Int) == 0) = true := beq_iff_eq.mpr c14
                    have c14b1 : ((x6_2.length : Int) != 0) = false := bne_eq_false_iff_eq.mpr c14
                    clear c14
                    obtain ⟨y110, hy110⟩ : ∃ y_ : List Int, y_ = (([97] : List Int)) := ⟨_, rfl⟩
                    replace H : (some (strOfNums y110, mn (wrap64 ((wrap64 (1 + (Int.tmod (wrap64 (rd l0 0)) 5))) + 1)) (l0.length : Int))) = some (r1, r2) := by first | (rw [hy110]; with_reducible exact H) | (have H2_ := (Option.bind_some _ _).symm.trans H; rw [hy110]; with_reducible exact H2_) | (have H2_ := (Option.bind_some _ _).symm.trans H; with_reducible exact H2_) | with_reducible exact H | (rw [hy110]; exact H) | exact H
                    have Ny110 := Aside0.mk hy110
                    clear hy110
                    obtain ⟨ji15, hji15⟩ : ∃ j_ : Int, (mn (wrap64 ((wrap64 (1 + (Int.tmod (wrap64 (rd l0 0)) 5))) + 1)) (l0.length : Int)) = j_ := ⟨_, rfl⟩
                    replace H : (some (strOfNums y110, ji15)) = some (r1, r2) := by first | (rw [hji15] at H; exact H) | (simp only [hji15] at H ⊢; exact H)
                    have hji15_ : (if (l0.length : Int) < (wrap64 ((wrap64 (1 + (Int.tmod (wrap64 (rd l0 0)) 5))) + 1)) then (l0.length : Int) else (wrap64 ((wrap64 (1 + (Int.tmod (wrap64 (rd l0 0)) 5))) + 1))) = ji15 := hji15
                    simp only [Option.some.injEq, Prod.mk.injEq] at H
                    obtain ⟨rfl, rfl⟩ := H
                    obtain ⟨Ao16, co16, eo16⟩ := Kd.R_slice HO_6.out
                    subst eo16
                    go_wp2_with (first | ((with_reducible refine gate_dst (N := 46) rfl ?_); (try (refine gate_guard (by rfl) ?_; dsimp only)); refine Kd.R_lit (Kd.int .u8) _ 5 ?hg (N := 46) ?hd (xs := ([97] : List Int)) (inner := [.int .u8 97]) (ok := fun _ => True) (okp := fun _ => True) ?hr ?hp (fun _ hk => hk) trivial (Below.refl _ _) (Nat.le_refl _) (by simp) ?_; (case hd => rfl); (case hg => rfl); (case hr => first | (go_simp; done) | (go_simp; rfl)); (case hp => exact (Reps.one (show Kd.M (Kd.int .u8) _ _ _ 97 [.int .u8 97] from rfl) (Reps.none _ _))); intro v111 w17 ho18 hb hg_ hnew_; clear hg_ hnew_; (first | rw [← Ny110.out] at ho18 | (simp only [Int.reduceToNat] at ho18; rw [← Ny110.out] at ho18)); have n0_ := Aside0.mk (Kd.R_elder' (by (with_reducible repeat (first | apply Kd.R_alloc | apply Kd.R_drewN | apply Kd.R_drew)); exact HO_6.out) (Kd.R_base ho18) hb); have n1_ := Aside0.mk (Kd.R_lower (Kd.R_new' ho18 (Kd.R_lt (by (with_reducible repeat (first | apply Kd.R_alloc | apply Kd.R_drewN | apply Kd.R_drew)); exact HO_6.out))) (below_size (by repeat (first | (with_reducible first | exact HB.out | apply below_alloc | apply pw_below_drewN | apply below_drew1) | exact HB.out)))); have n2_ := Aside0.mk (below_step (by repeat (first | (with_reducible first | exact HB.out | apply below_alloc | apply pw_below_drewN | apply below_drew1) | exact HB.out)) hb); clear HO_6; clear HB; have HO_6 := n0_; have HO112 := n1_; have HB := n2_; clear n0_ n1_ n2_; clear hb ho18; have hcv19 := own_string (P := Try.prog) Try.underlying22 Try.underlying5 Try.underlying9 (Kd.own_of_R HO112.out)))
                    go_ret2
                    exact ⟨by first | rfl | (simp [errW_none, errW_some] <;> rfl) | (simp only [← hji15]; first | rfl | (simp [errW_none, errW_some] <;> rfl)) | (simp [*, errW_none, errW_some] <;> rfl), by repeat (first | (with_reducible first | exact HB.out | apply below_alloc | apply pw_below_drewN | apply below_drew1) | exact HB.out)⟩
                  · rw [if_neg c14] at H
                    have c14b0 : ((x6_2.length : Int) == 0) = false := beq_eq_false_iff_ne.mpr c14
                    have c14b1 : ((x6_2.length : Int) != 0) = true := bne_iff_ne.mpr c14
                    have c14b2 : ¬ (x6_2 = []) := fun h_ => c14 (by rw [h_]; rfl)
                    obtain ⟨ji20, hji20⟩ : ∃ j_ : Int, (mn (wrap64 ((wrap64 (1 + (Int.tmod (wrap64 (rd l0 0)) 5))) + 1)) (l0.length : Int)) = j_ := ⟨_, rfl⟩
                    replace H : (some (strOfNums x6_2, ji20)) = some (r1, r2) := by first | (rw [hji20] at H; exact H) | (simp only [hji20] at H ⊢; exact H)
                    have hji20_ : (if (l0.length : Int) < (wrap64 ((wrap64 (1 + (Int.tmod (wrap64 (rd l0 0)) 5))) + 1)) then (l0.length : Int) else (wrap64 ((wrap64 (1 + (Int.tmod (wrap64 (rd l0 0)) 5))) + 1))) = ji20 := hji20
                    simp only [Option.some.injEq, Prod.mk.injEq] at H
                    obtain ⟨rfl, rfl⟩ := H
                    obtain ⟨Ao21, co21, eo21⟩ := Kd.R_slice HO_6.out
                    subst eo21
                    have hcv22 := own_string (P := Try.prog) Try.underlying22 Try.underlying5 Try.underlying9 (Kd.own_of_R HO_6.out)
                    go_wp2
                    go_ret2
                    exact ⟨by first | rfl | (simp [errW_none, errW_some] <;> rfl) | (simp only [← hji20]; first | rfl | (simp [errW_none, errW_some] <;> rfl)) | (simp [*, errW_none, errW_some] <;> rfl), by repeat (first | (with_reducible first | exact HB.out | apply below_alloc | apply pw_below_drewN | apply below_drew1) | exact HB.out)⟩
              · rw [if_neg c8] at H
                have c8b0 : decide (x7_2 ≤ (wrap64 (1 + (Int.tmod (wrap64 (rd l0 0)) 5)))) = false := decide_eq_false c8
                clear c8
                by_cases c23 : (x6_2.length : Int) = 0
                · rw [if_pos c23] at H
                  have c23b0 : ((x6_2.length : Int) == 0) = true := beq_iff_eq.mpr c23
                  have c23b1 : ((x6_2.length : Int) != 0) = false := bne_eq_false_iff_eq.mpr c23
                  clear c23
                  obtain ⟨y113, hy113⟩ : ∃ y_ : List Int, y_ = (([97] : List Int)) := ⟨_, rfl⟩
                  replace H : (some (strOfNums y113, mn (wrap64 ((wrap64 (1 + (Int.tmod (wrap64 (rd l0 0)) 5))) + 1)) (l0.length : Int))) = some (r1, r2) := by first | (rw [hy113]; with_reducible exact H) | (have H2_ := (Option.bind_some _ _).symm.trans H; rw [hy113]; with_reducible exact H2_) | (have H2_ := (Option.bind_some _ _).symm.trans H; with_reducible exact H2_) | with_reducible exact H | (rw [hy113]; exact H) | exact H
                  have Ny113 := Aside0.mk hy113
                  clear hy113
                  obtain ⟨ji24, hji24⟩ : ∃ j_ : Int, (mn (wrap64 ((wrap64 (1 + (Int.tmod (wrap64 (rd l0 0)) 5))) + 1)) (l0.length : Int)) = j_ := ⟨_, rfl⟩
                  replace H : (some (strOfNums y113, ji24)) = some (r1, r2) := by first | (rw [hji24] at H; exact H) | (simp only [hji24] at H ⊢; exact H)
                  have hji24_ : (if (l0.length : Int) < (wrap64 ((wrap64 (1 + (Int.tmod (wrap64 (rd l0 0)) 5))) + 1)) then (l0.length : Int) else (wrap64 ((wrap64 (1 + (Int.tmod (wrap64 (rd l0 0)) 5))) + 1))) = ji24 := hji24
                  simp only [Option.some.injEq, Prod.mk.injEq] at H
                  obtain ⟨rfl, rfl⟩ := H
                  obtain ⟨Ao25, co25, eo25⟩ := Kd.R_slice HO_6.out
                  subst eo25
                  go_wp2_with (first | ((with_reducible refine gate_dst (N := 46) rfl ?_); (try (refine gate_guard (by rfl) ?_; dsimp only)); refine Kd.R_lit (Kd.int .u8) _ 5 ?hg (N := 46) ?hd (xs := ([97] : List Int)) (inner := [.int .u8 97]) (ok := fun _ => True) (okp := fun _ => True) ?hr ?hp (fun _ hk => hk) trivial (Below.refl _ _) (Nat.le_refl _) (by simp) ?_; (case hd => rfl); (case hg => rfl); (case hr => first | (go_simp; done) | (go_simp; rfl)); (case hp => exact (Reps.one (show Kd.M (Kd.int .u8) _ _ _ 97 [.int .u8 97] from rfl) (Reps.none _ _))); intro v114 w26 ho27 hb hg_ hnew_; clear hg_ hnew_; (first | rw [← Ny113.out] at ho27 | (simp only [Int.reduceToNat] at ho27; rw [← Ny113.out] at ho27)); have n0_ := Aside0.mk (Kd.R_elder' (by (with_reducible repeat (first | apply Kd.R_alloc | apply Kd.R_drewN | apply Kd.R_drew)); exact HO_6.out) (Kd.R_base ho27) hb); have n1_ := Aside0.mk (Kd.R_lower (Kd.R_new' ho27 (Kd.R_lt (by (with_reducible repeat (first | apply Kd.R_alloc | apply Kd.R_drewN | apply Kd.R_drew)); exact HO_6.out))) (below_size (by repeat (first | (with_reducible first | exact HB.out | apply below_alloc | apply pw_below_drewN | apply below_drew1) | exact HB.out)))); have n2_ := Aside0.mk (below_step (by repeat (first | (with_reducible first | exact HB.out | apply below_alloc | apply pw_below_drewN | apply below_drew1) | exact HB.out)) hb); clear HO_6; clear HB; have HO_6 := n0_; have HO115 := n1_; have HB := n2_; clear n0_ n1_ n2_; clear hb ho27; have hcv28 := own_string (P := Try.prog) Try.underlying22 Try.underlying5 Try.underlying9 (Kd.own_of_R HO115.out)))
                  go_ret2
                  exact ⟨by first | rfl | (simp [errW_none, errW_some] <;> rfl) | (simp only [← hji24]; first | rfl | (simp [errW_none, errW_some] <;> rfl)) | (simp [*, errW_none, errW_some] <;> rfl), by repeat (first | (with_reducible first | exact HB.out | apply below_alloc | apply pw_below_drewN | apply below_drew1) | exact HB.out)⟩
                · rw [if_neg c23] at H
                  have c23b0 : ((x6_2.length : Int) == 0) = false := beq_eq_false_iff_ne.mpr c23
                  have c23b1 : ((x6_2.length : Int) != 0) = true := bne_iff_ne.mpr c23
                  have c23b2 : ¬ (x6_2 = []) := fun h_ => c23 (by rw [h_]; rfl)
                  obtain ⟨ji29, hji29⟩ : ∃ j_ : Int, (mn (wrap64 ((wrap64 (1 + (Int.tmod (wrap64 (rd l0 0)) 5))) + 1)) (l0.length : Int)) = j_ := ⟨_, rfl⟩
                  replace H : (some (strOfNums x6_2, ji29)) = some (r1, r2) := by first | (rw [hji29] at H; exact H) | (simp only [hji29] at H ⊢; exact H)
                  have hji29_ : (if (l0.length : Int) < (wrap64 ((wrap64 (1 + (Int.tmod (wrap64 (rd l0 0)) 5))) + 1)) then (l0.length : Int) else (wrap64 ((wrap64 (1 + (Int.tmod (wrap64 (rd l0 0)) 5))) + 1))) = ji29 := hji29
                  simp only [Option.some.injEq, Prod.mk.injEq] at H
                  obtain ⟨rfl, rfl⟩ := H
                  obtain ⟨Ao30, co30, eo30⟩ := Kd.R_slice HO_6.out
                  subst eo30
                  have hcv31 := own_string (P := Try.prog) Try.underlying22 Try.underlying5 Try.underlying9 (Kd.own_of_R HO_6.out)
                  go_wp2
                  go_ret2
                  exact ⟨by first | rfl | (simp [errW_none, errW_some] <;> rfl) | (simp only [← hji29]; first | rfl | (simp [errW_none, errW_some] <;> rfl)) | (simp [*, errW_none, errW_some] <;> rfl), by repeat (first | (with_reducible first | exact HB.out | apply below_alloc | apply pw_below_drewN | apply below_drew1) | exact HB.out)⟩
    · rw [if_neg c3] at H
      exact absurd H (by simp)

/-! ### spec_Words: function 36 -/
def spec_Words.l0 : Nat → List Int → List ByteArray → Option (List ByteArray)
  | 0, _, _ => none
  | k + 1, x0, x3 => if (x0.length : Int) > 0 then (if (x3.length : Int) < 40 then ((spec_Word.f k x0).bind fun bt116 => (if x3.length < 8796093022208 then (if 0 ≤ bt116.2 then (if bt116.2 ≤ (x0.length : Int) then (spec_Words.l0 k (x0.drop (bt116.2 : Int).toNat) (x3 ++ [bt116.1])) else (none)) else (none)) else (none))) else (some x3)) else (some x3)
def spec_Words.f (k : Nat) (l0 : List Int) : Option (List ByteArray) := spec_Words.l0 k l0 ([] : List ByteArray)
theorem spec_Words.mono_l : ∀ k, (∀ y0 y1, LeO (spec_Words.l0 k y0 y1) (spec_Words.l0 (k + 1) y0 y1))
  | 0 => fun _ _ r h => by simp [spec_Words.l0] at h
  | k + 1 => by
    have ih0 := spec_Words.mono_l k
    · intro y0 y1
      unfold spec_Words.l0
      repeat' first
      | (with_reducible exact ih0 _ _)
      | (with_reducible exact spec_Word.mono _ _)
      | (with_reducible exact LeO.refl _)
      | (with_reducible exact LeO.none _)
      | (with_reducible refine LeO.ite ?_ ?_)
      | (with_reducible refine LeO.bind ?_ (fun _ => ?_))
      | exact ih0 _ _
      | exact spec_Word.mono _ _
      | exact LeO.none _
      | refine LeO.ite ?_ ?_
      | refine LeO.bind ?_ (fun _ => ?_)
theorem spec_Words.mono : ∀ a0 k, LeO (spec_Words.f k a0) (spec_Words.f (k + 1) a0) := by
  intro a0 k
  have ih0 := spec_Words.mono_l k
  unfold spec_Words.f
  repeat' first
      | (with_reducible exact ih0 _ _)
      | (with_reducible exact spec_Word.mono _ _)
      | (with_reducible exact LeO.refl _)
      | (with_reducible exact LeO.none _)
      | (with_reducible refine LeO.ite ?_ ?_)
      | (with_reducible refine LeO.bind ?_ (fun _ => ?_))
      | exact ih0 _ _
      | exact spec_Word.mono _ _
      | exact LeO.none _
      | refine LeO.ite ?_ ?_
      | refine LeO.bind ?_ (fun _ => ?_)
set_option maxHeartbeats 8000000 in
set_option maxRecDepth 100000 in
theorem spec_Words.calls (k : Nat) (P0_ : Nat → Prop) (A0 : Option Addr) (c0 : Nat) (l0 : List Int) (r : List ByteArray) (w : World) (hs0 : Kd.V (Kd.int .u8) 5 w w.heap.size (fun k_ => P0_ k_) (.slice A0 l0.length c0) l0) (h : spec_Words.f k l0 = some r) :
    Calls Try.prog 36 #[.slice A0 l0.length c0] w fun e w' => ∃ v0_ : Value, e = .returned (v0_) ∧ Kd.R Kd.string 9 w' w.heap.size (fun k_ => (w.heap.size ≤ k_)) v0_ r ∧ Below w.heap.size w w' := by
  have HO0 := Aside0.mk (show Kd.V (Kd.int .u8) 5 w w.heap.size (fun k_ => (P0_ k_ ∨ w.heap.size ≤ k_)) (.slice A0 l0.length c0) l0 from Kd.V_mono hs0 (fun k_ hk => .inl hk))
  have HB := Aside0.mk (Below.refl w.heap.size w)
  have H : (spec_Words.l0 k l0 ([] : List ByteArray)) = some r := h
  clear h
  have H' := Aside0.mk H
  clear H
  go_enter Try.func36, Try.ntmps36
  go_wp2
  go_loopg [0, 3] k (fun kq v0 v3 w' => ∃ (x0_1 : List Int) (x3_1 : List ByteArray), Aside0 (spec_Words.l0 kq x0_1 x3_1 = some r) ∧ Aside0 (kq ≤ k) ∧ Aside0 (Kd.V (Kd.int .u8) 5 w' w.heap.size (fun k_ => (P0_ k_ ∨ w.heap.size ≤ k_) ∧ some k_ ≠ (v3 : Value).ownBlock) v0 x0_1) ∧ Aside0 (Kd.R Kd.string 9 w' w.heap.size (fun k_ => (w.heap.size ≤ k_)) v3 x3_1) ∧ Aside0 (Below w.heap.size w w'))
  case atStart => exact ⟨(l0), (([] : List ByteArray)), H', ⟨Nat.le_refl _⟩, ⟨by (with_reducible repeat (first | apply Kd.V_alloc | apply Kd.V_drewN | apply Kd.V_drew)); exact Kd.V_mono HO0.out (fun _ hk => ⟨hk, (by simp [Value.ownBlock])⟩)⟩, ⟨by first | exact Kd.R_nil _ _ _ _ _ | exact Kd.N_nil _ _ _ _ _ | exact Kd.V_nil _ _ _ _ _ | exact Kd.Q_nil _ _ _ _ _ | exact Kd.S_nil _ _ _ _ _⟩, ⟨by repeat (first | (with_reducible first | exact HB.out | apply below_alloc | apply pw_below_drewN | apply below_drew1) | exact HB.out)⟩⟩
  case round =>
    clear H'
    obtain ⟨x0_1, x3_1, HA, HK1, HO_0, HO_3, HB⟩ := hrel
    cases gk with
    | zero => exact absurd HA.out (by simp [spec_Words.l0])
    | succ k1 =>
      have H := HA.out
      clear HA
      simp only [spec_Words.l0] at H
      by_cases c2 : (x0_1.length : Int) > 0
      · rw [if_pos c2] at H
        have c2b0 : decide (0 < (x0_1.length : Int)) = true := decide_eq_true c2
        have c2b1 : decide (0 < x0_1.length) = true := decide_eq_true (by omega)
        clear c2
        by_cases c3 : (x3_1.length : Int) < 40
        · rw [if_pos c3] at H
          have c3b0 : decide ((x3_1.length : Int) < 40) = true := decide_eq_true c3
          have c3b1 : decide (x3_1.length < 40) = true := decide_eq_true (by omega)
          clear c3
          replace H := Option.bind_eq_some_iff.mp H
          obtain ⟨⟨t116, t117⟩, A40, H⟩ := H
          replace H : (if x3_1.length < 8796093022208 then (if 0 ≤ t117 then (if t117 ≤ (x0_1.length : Int) then (spec_Words.l0 k1 (x0_1.drop (t117 : Int).toNat) (x3_1 ++ [t116])) else (none)) else (none)) else (none)) = some r := H
          have A4 := Aside0.mk A40
          clear A40
          by_cases c5 : x3_1.length < 8796093022208
          · rw [if_pos c5] at H
            have LMc5 := Aside0.mk c5
            clear c5
            obtain ⟨y118, hy118⟩ : ∃ y_ : List ByteArray, y_ = (x3_1 ++ [t116]) := ⟨_, rfl⟩
            replace H : (if 0 ≤ t117 then (if t117 ≤ (x0_1.length : Int) then (spec_Words.l0 k1 (x0_1.drop (t117 : Int).toNat) y118) else (none)) else (none)) = some r := by first | (rw [hy118]; with_reducible exact H) | (have H2_ := (Option.bind_some _ _).symm.trans H; rw [hy118]; with_reducible exact H2_) | (have H2_ := (Option.bind_some _ _).symm.trans H; with_reducible exact H2_) | with_reducible exact H | (rw [hy118]; exact H) | exact H
            have Ny118 := Aside0.mk hy118
            clear hy118
            by_cases c6 : 0 ≤ t117
            · rw [if_pos c6] at H
              have c6b0 := eq_true c6
              have c6b1 : decide (0 ≤ t117) = true := decide_eq_true c6
              clear c6
              by_cases c7 : t117 ≤ (x0_1.length : Int)
              · rw [if_pos c7] at H
                have c7b0 := eq_true c7
                have c7b1 : decide (t117 ≤ (x0_1.length : Int)) = true := decide_eq_true c7
                clear c7
                obtain ⟨y121, hy121⟩ : ∃ y_ : List Int, y_ = (x0_1.drop (t117 : Int).toNat) := ⟨_, rfl⟩
                replace H : (spec_Words.l0 k1 y121 y118) = some r := by first | (rw [hy121]; with_reducible exact H) | (have H2_ := (Option.bind_some _ _).symm.trans H; rw [hy121]; with_reducible exact H2_) | (have H2_ := (Option.bind_some _ _).symm.trans H; with_reducible exact H2_) | with_reducible exact H | (rw [hy121]; exact H) | exact H
                have Ny121 := Aside0.mk hy121
                clear hy121
                have H' := Aside0.mk H
                clear H
                obtain ⟨Ao8, co8, eo8⟩ := Kd.V_slice HO_0.out
                subst eo8
                obtain ⟨Ao9, co9, eo9⟩ := Kd.R_slice HO_3.out
                subst eo9
                go_wp2_with (first | ((with_reducible refine gate_callee (f := 37) rfl ?_); refine goesL_ (some 16) rfl rfl Try.func37 (by kernel_rfl) rfl #[.slice Ao8 x0_1.length co8] rfl (by (try simp only [List.map_toArray, List.map_cons, List.map_nil]); first | done | rfl | (simp only [List.length_drop, List.length_take]; rfl)) ?_; (with_reducible refine (spec_Word.calls k1 _ _ x0_1 t116 t117 _ ?side1 ?side2 A4.out).mono ?_); (case side1 => repeat (first | exact (Kd.V_reads' HO_0.out).2.2 | (with_reducible refine Kd.C_alloc ?_ _) | (with_reducible refine Kd.C_drewN ?_ _) | (with_reducible refine Kd.C_drew ?_))); (case side2 => exact (Kd.V_reads' HO_0.out).2.1); rintro e w10 ⟨rfl, hb⟩; refine ⟨_, rfl, ?_⟩; have n0_ := Aside0.mk (Kd.V_below (by (with_reducible repeat (first | apply Kd.V_alloc | apply Kd.V_drewN | apply Kd.V_drew)); exact HO_0.out) hb); have n1_ := Aside0.mk (Kd.R_below (by (with_reducible repeat (first | apply Kd.R_alloc | apply Kd.R_drewN | apply Kd.R_drew)); exact HO_3.out) hb); have n2_ := Aside0.mk (below_step (by repeat (first | (with_reducible first | exact HB.out | apply below_alloc | apply pw_below_drewN | apply below_drew1) | exact HB.out)) hb); clear HO_0; clear HO_3; clear HB; have HO_0 := n0_; have HO_3 := n1_; have HB := n2_; clear n0_ n1_ n2_; (try clear hb); (try clear hb2); (try clear hk); (try clear hi)) | ((with_reducible refine gate_builtin (b := .append) (xs := #[.tmp 19, .tmp 21]) rfl ?_); (try (refine gate_guard (by rfl) ?_; dsimp only)); at_builtin; refine Kd.R_append Kd.string (w0 := w) w.heap.size rfl (.tmp 19) (.tmp 21) 23 9 (.string ⟨#[]⟩) 16 rfl Try.underlying23 info9 rfl (by decide) (by omega) (.slice Ao9 x3_1.length co9) x3_1 t116 [.string t116] (fun k_ => (w.heap.size ≤ k_)) (fun _ => False) rfl rfl ?aP (fun _ hk => hk.elim) ?aF ?aO ?aB ?aS ?aL ?_; (case aP => exact rfl); (case aB => exact (by repeat (first | (with_reducible first | exact HB.out | apply below_alloc | apply pw_below_drewN | apply below_drew1) | exact HB.out))); (case aF => exact (fun k_ hk => (Nat.le_trans (below_size (by repeat (first | (with_reducible first | exact HB.out | apply below_alloc | apply pw_below_drewN | apply below_drew1) | exact HB.out))) hk))); (case aO => exact (by (with_reducible repeat (first | apply Kd.R_alloc | apply Kd.R_drewN | apply Kd.R_drew)); exact HO_3.out)); (case aS => exact (below_size (by repeat (first | (with_reducible first | exact HB.out | apply below_alloc | apply pw_below_drewN | apply below_drew1) | exact HB.out)))); (case aL => have := LMc5.out; omega); intro v119 w11 ho hb hg hat; rw [← Ny118.out] at ho; have n0_ := Aside0.mk (Kd.V_afterv (ok := (fun k_ => (P0_ k_ ∨ w.heap.size ≤ k_))) (by (with_reducible repeat (first | apply Kd.V_alloc | apply Kd.V_drewN | apply Kd.V_drew)); exact HO_0.out) hg hat); have n1_ := Aside0.mk (hb); have n2_ := Aside0.mk (ho); clear HO_0; clear HB; clear HO_3; have HO_0 := n0_; have HB := n1_; have HO120 := n2_; clear n0_ n1_ n2_; clear ho hb hg hat; have q12 : (t117 : Int) ≤ ((x0_1.length : Int) : Int) := of_decide_eq_true (by first | (with_reducible assumption) | assumption); obtain ⟨i012, hi012, _, hsz12, _⟩ := info_parts info5; have hroom12 : x0_1.length ≤ co8 := (Kd.V_reads' HO_0.out).2.1; have hC12 : Kd.F (Kd.int .u8) _ _ Ao8 x0_1.length x0_1 := (Kd.V_at (base := w.heap.size) HO_0.out).2.2; have q012 : (0 : Int) ≤ (t117 : Int) := of_decide_eq_true (by first | (with_reducible assumption) | assumption); have hcut12 := cut_from (P := Try.prog) 22 5 .i64 Try.underlying22 hi012 1 hsz12 Ao8 x0_1.length co8 t117 q012 q12; have hr12 := Kd.F_cut (m := (t117 : Int).toNat) (c := co8) hC12 (by omega) hroom12; obtain ⟨A12, hA12⟩ : ∃ A1, A1 = (if co8 = (t117 : Int).toNat then Ao8 else (Ao8 : Option Addr).map (·.add ((t117 : Int).toNat * 1))) := ⟨_, rfl⟩; obtain ⟨c12, hc12⟩ : ∃ c1, c1 = co8 - (t117 : Int).toNat := ⟨_, rfl⟩; have hy12 : y121.length = x0_1.length - (t117 : Int).toNat := (by rw [Ny121.out, List.length_drop] <;> omega); rw [show (x0_1).drop (t117 : Int).toNat = y121 from Ny121.out.symm] at hr12; replace hr12 : Kd.F (Kd.int .u8) _ _ A12 y121.length y121 := (by rw [hA12]; exact hr12); rw [← hy12, ← hA12, ← hc12] at hcut12; have HO125 := Aside0.mk (show Kd.V (Kd.int .u8) 5 _ w.heap.size _ (.slice A12 y121.length c12) y121 from Kd.V_mk (by rw [hy12, hc12]; exact Nat.sub_le_sub_right hroom12 _) hr12); have HC125 := Aside0.mk (show y121.length ≤ c12 from by rw [hy12, hc12]; exact Nat.sub_le_sub_right hroom12 _); clear hr12 hC12 hroom12 hi012 hsz12 hc12; have KY12 := Aside0.mk hy12; have KA12 := Aside0.mk hA12; clear hy12 hA12; replace q12 := eq_true q12))
                go_roundg k1
                case measure => have := HK1.out; omega
                case rel => exact ⟨(y121), (y118), H', ⟨by have := HK1.out; omega⟩, ⟨by (with_reducible repeat (first | apply Kd.V_alloc | apply Kd.V_drewN | apply Kd.V_drew)); exact HO125.out⟩, ⟨by (with_reducible repeat (first | apply Kd.R_alloc | apply Kd.R_drewN | apply Kd.R_drew)); exact HO120.out⟩, ⟨by repeat (first | (with_reducible first | exact HB.out | apply below_alloc | apply pw_below_drewN | apply below_drew1) | exact HB.out)⟩⟩
              · rw [if_neg c7] at H
                exact absurd H (by simp)
            · rw [if_neg c6] at H
              exact absurd H (by simp)
          · rw [if_neg c5] at H
            exact absurd H (by simp)
        · rw [if_neg c3] at H
          have c3b0 : decide ((x3_1.length : Int) < 40) = false := decide_eq_false c3
          have c3b1 : decide (x3_1.length < 40) = false := decide_eq_false (by omega)
          clear c3
          obtain rfl := Option.some.inj H
          obtain ⟨Ao13, co13, eo13⟩ := Kd.V_slice HO_0.out
          subst eo13
          obtain ⟨Ao14, co14, eo14⟩ := Kd.R_slice HO_3.out
          subst eo14
          go_wp2
          go_ret
          exact ⟨_, by first | rfl | (simp [errW_none, errW_some] <;> rfl) | (simp [*, errW_none, errW_some] <;> rfl), by (with_reducible repeat (first | apply Kd.R_alloc | apply Kd.R_drewN | apply Kd.R_drew)); exact HO_3.out, by repeat (first | (with_reducible first | exact HB.out | apply below_alloc | apply pw_below_drewN | apply below_drew1) | exact HB.out)⟩
      · rw [if_neg c2] at H
        have c2b0 : decide (0 < (x0_1.length : Int)) = false := decide_eq_false c2
        have c2b1 : decide (0 < x0_1.length) = false := decide_eq_false (by omega)
        clear c2
        obtain rfl := Option.some.inj H
        obtain ⟨Ao15, co15, eo15⟩ := Kd.V_slice HO_0.out
        subst eo15
        go_wp2
        go_ret
        exact ⟨_, by first | rfl | (simp [errW_none, errW_some] <;> rfl) | (simp [*, errW_none, errW_some] <;> rfl), by (with_reducible repeat (first | apply Kd.R_alloc | apply Kd.R_drewN | apply Kd.R_drew)); exact HO_3.out, by repeat (first | (with_reducible first | exact HB.out | apply below_alloc | apply pw_below_drewN | apply below_drew1) | exact HB.out)⟩

/-! ### spec_Put: function 12 -/
def spec_Put.f (k : Nat) (l0 : List Int) : Option (List ByteArray) := (some (([(⟨#[65]⟩ : ByteArray), (⟨#[90]⟩ : ByteArray)] : List ByteArray) : List ByteArray)).bind fun y126 => ((spec_Words.f k l0).bind fun t129 => (if y126.length + t129.length < 8796093022208 then (some (y126 ++ t129)) else (none)))
theorem spec_Put.mono : ∀ a0 k, LeO (spec_Put.f k a0) (spec_Put.f (k + 1) a0) := by
  intro a0 k
  unfold spec_Put.f
  repeat' first
      | (with_reducible exact spec_Words.mono _ _)
      | (with_reducible exact LeO.refl _)
      | (with_reducible exact LeO.none _)
      | (with_reducible refine LeO.ite ?_ ?_)
      | (with_reducible refine LeO.bind ?_ (fun _ => ?_))
      | exact spec_Words.mono _ _
      | exact LeO.none _
      | refine LeO.ite ?_ ?_
      | refine LeO.bind ?_ (fun _ => ?_)
set_option maxHeartbeats 8000000 in
set_option maxRecDepth 100000 in
theorem spec_Put.calls (k : Nat) (A0 : Option Addr) (c0 : Nat) (l0 : List Int) (r : List ByteArray) (w : World) (hr0 : Kd.C (Kd.int .u8) w A0 l0.length l0) (hc0 : l0.length ≤ c0) (h : spec_Put.f k l0 = some r) :
    Calls Try.prog 12 #[.slice A0 l0.length c0] w fun e w' => ∃ v0_ : Value, e = .returned (v0_) ∧ Kd.R Kd.string 9 w' w.heap.size (fun _ => True) v0_ r ∧ Below w.heap.size w w' := by
  have HR0 := Aside0.mk hr0
  have HC0 := Aside0.mk hc0
  clear hr0 hc0
  have HB := Aside0.mk (Below.refl w.heap.size w)
  have H : ((some (([(⟨#[65]⟩ : ByteArray), (⟨#[90]⟩ : ByteArray)] : List ByteArray) : List ByteArray)).bind fun y126 => ((spec_Words.f k l0).bind fun t129 => (if y126.length + t129.length < 8796093022208 then (some (y126 ++ t129)) else (none)))) = some r := h
  clear h
  obtain ⟨y126, hy126⟩ : ∃ y_ : List ByteArray, y_ = (([(⟨#[65]⟩ : ByteArray), (⟨#[90]⟩ : ByteArray)] : List ByteArray)) := ⟨_, rfl⟩
  replace H : ((spec_Words.f k l0).bind fun t129 => (if y126.length + t129.length < 8796093022208 then (some (y126 ++ t129)) else (none))) = some r := by first | (rw [hy126]; with_reducible exact H) | (have H2_ := (Option.bind_some _ _).symm.trans H; rw [hy126]; with_reducible exact H2_) | (have H2_ := (Option.bind_some _ _).symm.trans H; with_reducible exact H2_) | with_reducible exact H | (rw [hy126]; exact H) | exact H
  have Ny126 := Aside0.mk hy126
  clear hy126
  replace H := Option.bind_eq_some_iff.mp H
  obtain ⟨t129, A20, H⟩ := H
  replace H : (if y126.length + t129.length < 8796093022208 then (some (y126 ++ t129)) else (none)) = some r := H
  have A2 := Aside0.mk A20
  clear A20
  by_cases c3 : y126.length + t129.length < 8796093022208
  · rw [if_pos c3] at H
    have LMc3 := Aside0.mk c3
    clear c3
    obtain ⟨y132, hy132⟩ : ∃ y_ : List ByteArray, y_ = (y126 ++ t129) := ⟨_, rfl⟩
    replace H : (some y132) = some r := by first | (rw [hy132]; with_reducible exact H) | (have H2_ := (Option.bind_some _ _).symm.trans H; rw [hy132]; with_reducible exact H2_) | (have H2_ := (Option.bind_some _ _).symm.trans H; with_reducible exact H2_) | with_reducible exact H | (rw [hy132]; exact H) | exact H
    have Ny132 := Aside0.mk hy132
    clear hy132
    obtain rfl := Option.some.inj H
    go_enter Try.func12, Try.ntmps12
    go_wp2_with (first | ((with_reducible refine gate_dst (N := 3) rfl ?_); refine Kd.R_lit Kd.string _ 9 ?hg (N := 3) ?hd (xs := ([(⟨#[65]⟩ : ByteArray), (⟨#[90]⟩ : ByteArray)] : List ByteArray)) (inner := [.string (⟨#[65]⟩ : ByteArray), .string (⟨#[90]⟩ : ByteArray)]) (ok := fun _ => True) (okp := fun _ => True) ?hr ?hp (fun _ hk => hk) trivial (Below.refl _ _) (Nat.le_refl _) (by simp) ?_; (case hd => rfl); (case hg => rfl); (case hr => first | (go_simp; done) | (go_simp; rfl)); (case hp => exact (Reps.one (show Kd.M Kd.string _ _ _ (⟨#[65]⟩ : ByteArray) [.string (⟨#[65]⟩ : ByteArray)] from rfl) (Reps.one (show Kd.M Kd.string _ _ _ (⟨#[90]⟩ : ByteArray) [.string (⟨#[90]⟩ : ByteArray)] from rfl) (Reps.none _ _)))); intro v127 w4 ho5 hb hg_ hnew_; clear hg_ hnew_; (first | rw [← Ny126.out] at ho5 | (simp only [Int.reduceToNat] at ho5; rw [← Ny126.out] at ho5)); have n0_ := Aside0.mk (Kd.R_lower ho5 (below_size (by repeat (first | (with_reducible first | exact HB.out | apply below_alloc | apply pw_below_drewN | apply below_drew1) | exact HB.out)))); have n1_ := Aside0.mk (below_step (by repeat (first | (with_reducible first | exact HB.out | apply below_alloc | apply pw_below_drewN | apply below_drew1) | exact HB.out)) hb); clear HB; have HO128 := n0_; have HB := n1_; clear n0_ n1_; clear hb ho5) | ((with_reducible refine gate_callee (f := 36) rfl ?_); refine goesL_ (some 5) rfl rfl Try.func36 (by kernel_rfl) rfl #[.slice A0 l0.length c0] rfl (by (try simp only [List.map_toArray, List.map_cons, List.map_nil]); first | done | rfl | (simp only [List.length_drop, List.length_take]; rfl)) ?_; (with_reducible refine (spec_Words.calls k (fun k_ => k_ < w.heap.size) _ _ l0 t129 _ ?side1 A2.out).mono ?_); (case side1 => exact Kd.V_mk HC0.out (Kd.F_below (Kd.C_F (Kd.heap_int .u8) HR0.out) (by repeat (first | (with_reducible first | exact HB.out | apply below_alloc | apply pw_below_drewN | apply below_drew1) | exact HB.out)))); rintro e w6 ⟨v130, rfl, ho0, hb⟩; refine ⟨_, rfl, ?_⟩; have n0_ := Aside0.mk (Kd.R_elder' (by (with_reducible repeat (first | apply Kd.R_alloc | apply Kd.R_drewN | apply Kd.R_drew)); exact HO128.out) (Kd.R_base ho0) hb); have n1_ := Aside0.mk (Kd.R_lower (Kd.R_new' (Kd.R_mono (ok' := fun k_ => True) ho0 (fun _ hk_ => trivial)) (Kd.R_lt (by (with_reducible repeat (first | apply Kd.R_alloc | apply Kd.R_drewN | apply Kd.R_drew)); exact HO128.out))) (below_size (by repeat (first | (with_reducible first | exact HB.out | apply below_alloc | apply pw_below_drewN | apply below_drew1) | exact HB.out)))); have n2_ := Aside0.mk (below_step (by repeat (first | (with_reducible first | exact HB.out | apply below_alloc | apply pw_below_drewN | apply below_drew1) | exact HB.out)) hb); clear HO128; clear HB; have HO128 := n0_; have HO131 := n1_; have HB := n2_; clear n0_ n1_ n2_; (try clear hb); (try clear hb2); (try clear hk); (try clear hi); (try clear ho0); obtain ⟨Ao8, co8, eo8⟩ := Kd.R_slice HO131.out; subst eo8) | ((with_reducible refine gate_builtin (b := .append) (xs := #[.tmp 3, .tmp 5]) rfl ?_); at_builtin; refine Kd.R_append_rows Kd.string (w0 := w) w.heap.size rfl (.tmp 3) (.tmp 5) 23 9 (.string ⟨#[]⟩) 16 rfl Try.underlying23 info9 rfl (by decide) (by omega) v127 y126 t129 _ _ _ (fun k_ => some k_ ≠ (.slice Ao8 t129.length co8 : Value).ownBlock) (fun _ => False) rfl rfl ?aO ?aR (fun _ _ h => h) (fun _ h => h.elim) ?aF ?aB ?aS ?aL ?_; (case aR => repeat (first | exact (Kd.R_reads' HO131.out).2.2 | (with_reducible refine Kd.C_alloc ?_ _) | (with_reducible refine Kd.C_drewN ?_ _) | (with_reducible refine Kd.C_drew ?_))); (case aB => exact (by repeat (first | (with_reducible first | exact HB.out | apply below_alloc | apply pw_below_drewN | apply below_drew1) | exact HB.out))); (case aF => exact (fun k_ hk => Kd.fresh' (Kd.R_lt (by (with_reducible repeat (first | apply Kd.R_alloc | apply Kd.R_drewN | apply Kd.R_drew)); exact HO131.out)) k_ hk)); (case aO => exact (by (with_reducible repeat (first | apply Kd.R_alloc | apply Kd.R_drewN | apply Kd.R_drew)); exact Kd.R_mono HO128.out (fun _ hk => hk.2))); (case aS => exact (below_size (by repeat (first | (with_reducible first | exact HB.out | apply below_alloc | apply pw_below_drewN | apply below_drew1) | exact HB.out)))); (case aL => have := LMc3.out; omega); intro v133 w7 ho hb hg hat; rw [← Ny132.out] at ho; have n0_ := Aside0.mk (Kd.R_after (ok := (fun _ => True)) (by (with_reducible repeat (first | apply Kd.R_alloc | apply Kd.R_drewN | apply Kd.R_drew)); exact HO131.out) hg hat); have n1_ := Aside0.mk (hb); have n2_ := Aside0.mk (ho); clear HO131; clear HB; clear HO128; have HO131 := n0_; have HB := n1_; have HO134 := n2_; clear n0_ n1_ n2_; clear ho hb hg hat))
    go_ret
    exact ⟨_, by first | rfl | (simp [errW_none, errW_some] <;> rfl) | (simp [*, errW_none, errW_some] <;> rfl), by (with_reducible repeat (first | apply Kd.R_alloc | apply Kd.R_drewN | apply Kd.R_drew)); exact Kd.R_mono HO134.out (fun _ hk => trivial), by repeat (first | (with_reducible first | exact HB.out | apply below_alloc | apply pw_below_drewN | apply below_drew1) | exact HB.out)⟩
  · rw [if_neg c3] at H
    exact absurd H (by simp)

/-! ### spec_Node: function 15 -/
def spec_Node.f (a0 : Int) : Option (Int) := some (wrap64 (1 + (Int.tmod (wrap64 (a0)) 12)))
set_option maxHeartbeats 8000000 in
set_option maxRecDepth 100000 in
theorem spec_Node.calls (a0 : Int) (r : Int) (w : World) (h : spec_Node.f a0 = some r) :
    Calls Try.prog 15 #[.int .u8 a0] w fun e w' => e = .returned (.int .i64 r) ∧ Drawn0 w w' := by
  have H : (some (wrap64 (1 + (Int.tmod (wrap64 (a0)) 12)))) = some r := h
  clear h
  obtain rfl := Option.some.inj H
  go_enter Try.func15, Try.ntmps15
  go_wp2
  go_ret
  exact ⟨by first | rfl | (simp; done) | (simp [*]; done), by repeat (first | exact Drawn0.refl _ | apply Drawn0.step)⟩

/-! ### spec_Sparse: function 16 -/
def spec_Sparse.f (a0 : Int) : Option (Int) := some (wrap64 (1 + (Int.tmod (wrap64 (a0)) 9)))
set_option maxHeartbeats 8000000 in
set_option maxRecDepth 100000 in
theorem spec_Sparse.calls (a0 : Int) (r : Int) (w : World) (h : spec_Sparse.f a0 = some r) :
    Calls Try.prog 16 #[.int .u8 a0] w fun e w' => e = .returned (.int .i64 r) ∧ Drawn0 w w' := by
  have H : (some (wrap64 (1 + (Int.tmod (wrap64 (a0)) 9)))) = some r := h
  clear h
  obtain rfl := Option.some.inj H
  go_enter Try.func16, Try.ntmps16
  go_wp2
  go_ret
  exact ⟨by first | rfl | (simp; done) | (simp [*]; done), by repeat (first | exact Drawn0.refl _ | apply Drawn0.step)⟩

-- NOT PRINTED: function 73 (patricia_newSparseChildList)

-- NOT PRINTED: function 59 (patricia_NewTrie)

-- NOT PRINTED: function 60 (patricia_MaxPrefixPerNode)

-- NOT PRINTED: function 61 (patricia_MaxChildrenPerSparseNode)

-- NOT PRINTED: function 38 (impl_empty)

-- NOT PRINTED: function 68 (patricia_Trie_compact)

-- NOT PRINTED: function 70 (patricia_Trie_longestCommonPrefixLength)

-- NOT PRINTED: function 62 (patricia_Trie_put)

-- NOT PRINTED: function 44 (patricia_Trie_Insert)

-- NOT PRINTED: function 41 (impl_grow)

-- NOT PRINTED: function 65 (patricia_Trie_findSubtree)

-- NOT PRINTED: function 42 (patricia_Trie_MatchSubtree)

-- NOT PRINTED: function 18 (impl_Has)

/-! ### slices_Index_string_string: function 48 -/
def slices_Index_string_string.l0 : Nat → List ByteArray → ByteArray → Int → Int → Option (Int)
  | 0, _, _, _, _ => none
  | k + 1, x0, x1, x7, x8 => if x8 < x7 then (if 0 ≤ x8 then (if x8 < (x0.length : Int) then (if x1.toList = (rdOf ByteArray.empty x0 x8).toList then (some x8) else (slices_Index_string_string.l0 k x0 x1 x7 (wrap64 (x8 + 1)))) else (none)) else (none)) else (some (-1))
def slices_Index_string_string.f (k : Nat) (l0 : List ByteArray) (a1 : ByteArray) : Option (Int) := slices_Index_string_string.l0 k l0 a1 (l0.length : Int) 0
theorem slices_Index_string_string.mono_l : ∀ k, (∀ y0 y1 y2 y3, LeO (slices_Index_string_string.l0 k y0 y1 y2 y3) (slices_Index_string_string.l0 (k + 1) y0 y1 y2 y3))
  | 0 => fun _ _ _ _ r h => by simp [slices_Index_string_string.l0] at h
  | k + 1 => by
    have ih0 := slices_Index_string_string.mono_l k
    · intro y0 y1 y2 y3
      unfold slices_Index_string_string.l0
      repeat' first
      | (with_reducible exact ih0 _ _ _ _)
      | (with_reducible exact LeO.refl _)
      | (with_reducible exact LeO.none _)
      | (with_reducible refine LeO.ite ?_ ?_)
      | (with_reducible refine LeO.bind ?_ (fun _ => ?_))
      | exact ih0 _ _ _ _
      | exact LeO.none _
      | refine LeO.ite ?_ ?_
      | refine LeO.bind ?_ (fun _ => ?_)
theorem slices_Index_string_string.mono : ∀ a0 a1 k, LeO (slices_Index_string_string.f k a0 a1) (slices_Index_string_string.f (k + 1) a0 a1) := by
  intro a0 a1 k
  have ih0 := slices_Index_string_string.mono_l k
  unfold slices_Index_string_string.f
  repeat' first
      | (with_reducible exact ih0 _ _ _ _)
      | (with_reducible exact LeO.refl _)
      | (with_reducible exact LeO.none _)
      | (with_reducible refine LeO.ite ?_ ?_)
      | (with_reducible refine LeO.bind ?_ (fun _ => ?_))
      | exact ih0 _ _ _ _
      | exact LeO.none _
      | refine LeO.ite ?_ ?_
      | refine LeO.bind ?_ (fun _ => ?_)
set_option maxHeartbeats 8000000 in
set_option maxRecDepth 100000 in
theorem slices_Index_string_string.calls (k : Nat) (A0 : Option Addr) (c0 : Nat) (l0 : List ByteArray) (a1 : ByteArray) (r : Int) (w : World) (hr0 : Kd.C Kd.string w A0 l0.length l0) (hc0 : l0.length ≤ c0) (h : slices_Index_string_string.f k l0 a1 = some r) :
    Calls Try.prog 48 #[.slice A0 l0.length c0, .string a1] w fun e w' => e = .returned (.int .i64 r) ∧ Drawn0 w w' := by
  have HR0 := Aside0.mk hr0
  have HC0 := Aside0.mk hc0
  clear hr0 hc0
  have H : (slices_Index_string_string.l0 k l0 a1 (l0.length : Int) 0) = some r := h
  clear h
  have H' := Aside0.mk H
  clear H
  go_enter Try.func48, Try.ntmps48
  go_wp2
  go_loopg [8] k (fun kq v8 w' => ∃ (x8_1 : Int), v8 = .int .i64 x8_1 ∧ Aside0 (slices_Index_string_string.l0 kq l0 a1 (l0.length : Int) x8_1 = some r) ∧ Aside0 (kq ≤ k) ∧ Drawn0 w w')
  case atStart => exact ⟨(0), (by first | rfl | (simp; done) | (simp [*]; done)), H', ⟨Nat.le_refl _⟩, by repeat (first | exact Drawn0.refl _ | apply Drawn0.step)⟩
  case round =>
    clear H'
    try clear p2
    obtain ⟨x8_1, rfl, HA, HK1, ⟨m1, rfl⟩⟩ := hrel
    cases gk with
    | zero => exact absurd HA.out (by simp [slices_Index_string_string.l0])
    | succ k1 =>
      have H := HA.out
      clear HA
      simp only [slices_Index_string_string.l0] at H
      by_cases c3 : x8_1 < (l0.length : Int)
      · rw [if_pos c3] at H
        have c3b0 : decide (x8_1 < (l0.length : Int)) = true := decide_eq_true c3
        clear c3
        by_cases c4 : 0 ≤ x8_1
        · rw [if_pos c4] at H
          have c4b0 : decide (0 ≤ x8_1) = true := decide_eq_true c4
          clear c4
          by_cases c5 : x8_1 < (l0.length : Int)
          · rw [if_pos c5] at H
            have c5b0 : decide (x8_1 < (l0.length : Int)) = true := decide_eq_true c5
            clear c5
            by_cases c6 : a1.toList = (rdOf ByteArray.empty l0 x8_1).toList
            · rw [if_pos c6] at H
              have c6b0 : (a1.toList == (rdOf ByteArray.empty l0 x8_1).toList) = true := beq_iff_eq.mpr c6
              have c6b1 : (a1.toList != (rdOf ByteArray.empty l0 x8_1).toList) = false := bne_eq_false_iff_eq.mpr c6
              clear c6
              obtain rfl := Option.some.inj H
              have p135 : 0 ≤ (x8_1 : Int) := of_decide_eq_true (by first | (with_reducible assumption) | assumption)
              have q135 : x8_1 < (l0.length : Int) := of_decide_eq_true (by first | (with_reducible assumption) | assumption)
              obtain ⟨ad135, e135, hx135_0⟩ := Kd.at_string HR0.out x8_1 p135 q135
              cases e135
              replace p135 := eq_true p135
              replace q135 := eq_true q135
              go_wp2
              go_ret
              exact ⟨by first | rfl | (simp; done) | (simp [*]; done), by repeat (first | exact Drawn0.refl _ | apply Drawn0.step)⟩
            · rw [if_neg c6] at H
              have c6b0 : (a1.toList == (rdOf ByteArray.empty l0 x8_1).toList) = false := beq_eq_false_iff_ne.mpr c6
              have c6b1 : (a1.toList != (rdOf ByteArray.empty l0 x8_1).toList) = true := bne_iff_ne.mpr c6
              have H' := Aside0.mk H
              clear H
              have p135 : 0 ≤ (x8_1 : Int) := of_decide_eq_true (by first | (with_reducible assumption) | assumption)
              have q135 : x8_1 < (l0.length : Int) := of_decide_eq_true (by first | (with_reducible assumption) | assumption)
              obtain ⟨ad135, e135, hx135_0⟩ := Kd.at_string HR0.out x8_1 p135 q135
              cases e135
              replace p135 := eq_true p135
              replace q135 := eq_true q135
              go_wp2
              go_roundg k1
              case measure => have := HK1.out; omega
              case rel => exact ⟨(wrap64 (x8_1 + 1)), (by first | rfl | (simp; done) | (simp [*]; done)), H', ⟨by have := HK1.out; omega⟩, by repeat (first | exact Drawn0.refl _ | apply Drawn0.step)⟩
          · rw [if_neg c5] at H
            exact absurd H (by simp)
        · rw [if_neg c4] at H
          exact absurd H (by simp)
      · rw [if_neg c3] at H
        have c3b0 : decide (x8_1 < (l0.length : Int)) = false := decide_eq_false c3
        clear c3
        obtain rfl := Option.some.inj H
        go_wp2
        go_ret
        exact ⟨by first | rfl | (simp; done) | (simp [*]; done), by repeat (first | exact Drawn0.refl _ | apply Drawn0.step)⟩

/-! ### slices_Contains_string_string: function 45 -/
def slices_Contains_string_string.f (k : Nat) (l0 : List ByteArray) (a1 : ByteArray) : Option (Bool) := (slices_Index_string_string.f k l0 a1).bind fun t136 => (some (decide (t136 ≥ 0)))
theorem slices_Contains_string_string.mono : ∀ a0 a1 k, LeO (slices_Contains_string_string.f k a0 a1) (slices_Contains_string_string.f (k + 1) a0 a1) := by
  intro a0 a1 k
  unfold slices_Contains_string_string.f
  repeat' first
      | (with_reducible exact slices_Index_string_string.mono _ _ _)
      | (with_reducible exact LeO.refl _)
      | (with_reducible exact LeO.none _)
      | (with_reducible refine LeO.ite ?_ ?_)
      | (with_reducible refine LeO.bind ?_ (fun _ => ?_))
      | exact slices_Index_string_string.mono _ _ _
      | exact LeO.none _
      | refine LeO.ite ?_ ?_
      | refine LeO.bind ?_ (fun _ => ?_)
set_option maxHeartbeats 8000000 in
set_option maxRecDepth 100000 in
theorem slices_Contains_string_string.calls (k : Nat) (A0 : Option Addr) (c0 : Nat) (l0 : List ByteArray) (a1 : ByteArray) (r : Bool) (w : World) (hr0 : Kd.C Kd.string w A0 l0.length l0) (hc0 : l0.length ≤ c0) (h : slices_Contains_string_string.f k l0 a1 = some r) :
    Calls Try.prog 45 #[.slice A0 l0.length c0, .string a1] w fun e w' => e = .returned (.bool r) ∧ Drawn0 w w' := by
  have HR0 := Aside0.mk hr0
  have HC0 := Aside0.mk hc0
  clear hr0 hc0
  have H : ((slices_Index_string_string.f k l0 a1).bind fun t136 => (some (decide (t136 ≥ 0)))) = some r := h
  clear h
  replace H := Option.bind_eq_some_iff.mp H
  obtain ⟨t136, A30, H⟩ := H
  replace H : (some (decide (t136 ≥ 0))) = some r := H
  have A3 := Aside0.mk A30
  clear A30
  obtain rfl := Option.some.inj H
  go_enter Try.func45, Try.ntmps45
  go_wp2_with (first | ((with_reducible refine gate_callee (f := 48) rfl ?_); refine goesL_ (some 7) rfl rfl Try.func48 (by kernel_rfl) rfl #[.slice A0 l0.length c0, .string a1] rfl (by (try simp only [List.map_toArray, List.map_cons, List.map_nil]); first | done | rfl | (simp only [List.length_drop, List.length_take]; rfl)) ?_; (with_reducible refine (slices_Index_string_string.calls k _ _ l0 a1 t136 _ ?side1 ?side2 A3.out).mono ?_); (case side1 => repeat (first | exact HR0.out | (with_reducible refine Kd.C_alloc ?_ _) | (with_reducible refine Kd.C_drewN ?_ _) | (with_reducible refine Kd.C_drew ?_))); (case side2 => exact HC0.out); rintro e w' ⟨rfl, ⟨nd, rfl⟩⟩; refine ⟨_, rfl, ?_⟩))
  go_ret
  exact ⟨by first | rfl | (simp; done) | (simp [*]; done), by repeat (first | exact Drawn0.refl _ | apply Drawn0.step)⟩

end Go.Proofs.Ytmdbnjepajifpaa.PFnOrder
