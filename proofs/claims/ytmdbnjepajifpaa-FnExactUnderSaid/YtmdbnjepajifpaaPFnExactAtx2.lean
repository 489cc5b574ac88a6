-- PRINTED BY print.sh 35421559b90ae4d0a3588c463048766b98c2df88dd9212a6774a882060cdf62d: not written by this session
import Derived.Test.YtmdbnjepajifpaaPFnExactAtx0
import Derived.Test.YtmdbnjepajifpaaPFnExactAtx1
namespace Go.Proofs.Ytmdbnjepajifpaa.PFnExactAt
open Go.RowKit Go.Proofs.YtmdbnjepajifpaaW.PrintWords Go.Proofs.YtmdbnjepajifpaaW.PrintLast Go.Proofs.YtmdbnjepajifpaaW.PrintMore
attribute [local go_sem] max2_int min2_int max_two min_two max_three min_three max_four min_four   -- for this text's walks alone
set_option linter.unusedVariables false
set_option linter.unusedSimpArgs false

/-! ### spec_Less: function 22 -/
mutual
def spec_Less.l0 : Nat → List ByteArray → List Int → List ByteArray → Int → Option (List ByteArray)
  | 0, _, _, _, _ => none
  | k + 1, x0, x1, x5, x6 => if x6 < (x1.length : Int) then (if x6 < 30 then (spec_Less.j1 k x0 x1 x5 x6 (decide ((x0.length : Int) > 2))) else (spec_Less.j1 k x0 x1 x5 x6 false)) else (spec_Less.j1 k x0 x1 x5 x6 false)
def spec_Less.j1 : Nat → List ByteArray → List Int → List ByteArray → Int → Bool → Option (List ByteArray)
  | 0, _, _, _, _, _ => none
  | k + 1, x0, x1, x5, x6, x20 => if x20 = true then (if 0 ≤ x6 then (if x6 < (x1.length : Int) then (if (wrap64 ((x0.length : Int) - 2)) = 0 then (none) else (if 0 ≤ (wrap64 (2 + (Int.tmod (wrap64 (rd x1 x6)) (wrap64 ((x0.length : Int) - 2))))) then (if (wrap64 (2 + (Int.tmod (wrap64 (rd x1 x6)) (wrap64 ((x0.length : Int) - 2))))) < (x0.length : Int) then ((slices_Contains_string_string.f k x5 (rdOf ByteArray.empty x0 (wrap64 (2 + (Int.tmod (wrap64 (rd x1 x6)) (wrap64 ((x0.length : Int) - 2))))))).bind fun t141 => (if t141 = true then (spec_Less.l0 k x0 x1 x5 (wrap64 (x6 + 1))) else (if x5.length < 8796093022208 then (spec_Less.l0 k x0 x1 (x5 ++ [rdOf ByteArray.empty x0 (wrap64 (2 + (Int.tmod (wrap64 (rd x1 x6)) (wrap64 ((x0.length : Int) - 2)))))]) (wrap64 (x6 + 1))) else (none)))) else (none)) else (none))) else (none)) else (none)) else (some x5)
end
def spec_Less.f (k : Nat) (l0 : List ByteArray) (l1 : List Int) : Option (List ByteArray) := spec_Less.l0 k l0 l1 ([] : List ByteArray) 0
theorem spec_Less.mono_l : ∀ k, (∀ y0 y1 y2 y3, LeO (spec_Less.l0 k y0 y1 y2 y3) (spec_Less.l0 (k + 1) y0 y1 y2 y3)) ∧ (∀ y0 y1 y2 y3 y4, LeO (spec_Less.j1 k y0 y1 y2 y3 y4) (spec_Less.j1 (k + 1) y0 y1 y2 y3 y4))
  | 0 => ⟨fun _ _ _ _ r h => by simp [spec_Less.l0] at h, fun _ _ _ _ _ r h => by simp [spec_Less.j1] at h⟩
  | k + 1 => by
    obtain ⟨ih0, ih1⟩ := spec_Less.mono_l k
    refine ⟨?_, ?_⟩
    · intro y0 y1 y2 y3
      unfold spec_Less.l0
      repeat' first
      | (with_reducible exact ih0 _ _ _ _)
      | (with_reducible exact ih1 _ _ _ _ _)
      | (with_reducible exact slices_Contains_string_string.mono _ _ _)
      | (with_reducible exact LeO.refl _)
      | (with_reducible exact LeO.none _)
      | (with_reducible refine LeO.ite ?_ ?_)
      | (with_reducible refine LeO.bind ?_ (fun _ => ?_))
      | exact ih0 _ _ _ _
      | exact ih1 _ _ _ _ _
      | exact slices_Contains_string_string.mono _ _ _
      | exact LeO.none _
      | refine LeO.ite ?_ ?_
      | refine LeO.bind ?_ (fun _ => ?_)
    · intro y0 y1 y2 y3 y4
      unfold spec_Less.j1
      repeat' first
      | (with_reducible exact ih0 _ _ _ _)
      | (with_reducible exact ih1 _ _ _ _ _)
      | (with_reducible exact slices_Contains_string_string.mono _ _ _)
      | (with_reducible exact LeO.refl _)
      | (with_reducible exact LeO.none _)
      | (with_reducible refine LeO.ite ?_ ?_)
      | (with_reducible refine LeO.bind ?_ (fun _ => ?_))
      | exact ih0 _ _ _ _
      | exact ih1 _ _ _ _ _
      | exact slices_Contains_string_string.mono _ _ _
      | exact LeO.none _
      | refine LeO.ite ?_ ?_
      | refine LeO.bind ?_ (fun _ => ?_)
theorem spec_Less.mono : ∀ a0 a1 k, LeO (spec_Less.f k a0 a1) (spec_Less.f (k + 1) a0 a1) := by
  intro a0 a1 k
  obtain ⟨ih0, ih1⟩ := spec_Less.mono_l k
  unfold spec_Less.f
  repeat' first
      | (with_reducible exact ih0 _ _ _ _)
      | (with_reducible exact ih1 _ _ _ _ _)
      | (with_reducible exact slices_Contains_string_string.mono _ _ _)
      | (with_reducible exact LeO.refl _)
      | (with_reducible exact LeO.none _)
      | (with_reducible refine LeO.ite ?_ ?_)
      | (with_reducible refine LeO.bind ?_ (fun _ => ?_))
      | exact ih0 _ _ _ _
      | exact ih1 _ _ _ _ _
      | exact slices_Contains_string_string.mono _ _ _
      | exact LeO.none _
      | refine LeO.ite ?_ ?_
      | refine LeO.bind ?_ (fun _ => ?_)
set_option maxHeartbeats 8000000 in
set_option maxRecDepth 100000 in
theorem spec_Less.calls (k : Nat) (A0 : Option Addr) (c0 : Nat) (l0 : List ByteArray) (A1 : Option Addr) (c1 : Nat) (l1 : List Int) (r : List ByteArray) (w : World) (hr0 : Kd.C Kd.string w A0 l0.length l0) (hc0 : l0.length ≤ c0) (hr1 : Kd.C (Kd.int .u8) w A1 l1.length l1) (hc1 : l1.length ≤ c1) (h : spec_Less.f k l0 l1 = some r) :
    Calls Try.prog 22 #[.slice A0 l0.length c0, .slice A1 l1.length c1] w fun e w' => ∃ v0_ : Value, e = .returned (v0_) ∧ Kd.R Kd.string 9 w' w.heap.size (fun _ => True) v0_ r ∧ Below w.heap.size w w' := by
  have HR0 := Aside0.mk hr0
  have HC0 := Aside0.mk hc0
  clear hr0 hc0
  have HR1 := Aside0.mk hr1
  have HC1 := Aside0.mk hc1
  clear hr1 hc1
  have HB := Aside0.mk (Below.refl w.heap.size w)
  have H : (spec_Less.l0 k l0 l1 ([] : List ByteArray) 0) = some r := h
  clear h
  have H' := Aside0.mk H
  clear H
  go_enter Try.func22, Try.ntmps22
  go_wp2
  go_loopg [5, 6] k (fun kq v5 v6 w' => ∃ (x5_1 : List ByteArray) (x6_1 : Int), v6 = .int .i64 x6_1 ∧ Aside0 (spec_Less.l0 kq l0 l1 x5_1 x6_1 = some r) ∧ Aside0 (kq ≤ k) ∧ Aside0 (Kd.R Kd.string 9 w' w.heap.size (fun _ => True) v5 x5_1) ∧ Aside0 (Below w.heap.size w w'))
  case atStart => exact ⟨(([] : List ByteArray)), (0), (by first | rfl | (simp; done) | (simp [*]; done)), H', ⟨Nat.le_refl _⟩, ⟨by first | exact Kd.R_nil _ _ _ _ _ | exact Kd.N_nil _ _ _ _ _ | exact Kd.V_nil _ _ _ _ _ | exact Kd.Q_nil _ _ _ _ _ | exact Kd.S_nil _ _ _ _ _⟩, ⟨by repeat (first | (with_reducible first | exact HB.out | apply below_alloc | apply pw_below_drewN | apply below_drew1) | exact HB.out)⟩⟩
  case round =>
    clear H'
    try clear c1
    try clear c2
    try clear p2
    obtain ⟨x5_1, x6_1, rfl, HA, HK1, HO_5, HB⟩ := hrel
    cases gk with
    | zero => exact absurd HA.out (by simp [spec_Less.l0])
    | succ k1 =>
      have H := HA.out
      clear HA
      simp only [spec_Less.l0] at H
      have HC3 := Aside0.mk H
      clear H
      go_upto_region 3 with (fail)
      go_cut [20] (fun v20 wc => ∃ (kq : Nat) (x20_2 : Bool), v20 = .bool x20_2 ∧ Aside0 (spec_Less.j1 kq l0 l1 x5_1 x6_1 x20_2 = some r) ∧ Aside0 (kq ≤ k1) ∧ Aside0 (Kd.R Kd.string 9 wc w.heap.size (fun _ => True) u5 x5_1) ∧ Aside0 (Below w.heap.size w wc))
      case first =>
        have H := HC3.out
        clear HC3
        by_cases c4 : x6_1 < (l1.length : Int)
        · rw [if_pos c4] at H
          have c4b0 : decide (x6_1 < (l1.length : Int)) = true := decide_eq_true c4
          clear c4
          (first | rw [c4b0] | (simp only [i64_w, i32_w]; rw [c4b0]) | skip)
          by_cases c5 : x6_1 < 30
          · rw [if_pos c5] at H
            have c5b0 : decide (x6_1 < 30) = true := decide_eq_true c5
            clear c5
            have H' := Aside0.mk H
            clear H
            go_wp2
            go_meet
            case rel => exact ⟨_, (decide ((l0.length : Int) > 2)), (by first | rfl | (simp; done) | (simp [*]; done)), H', ⟨by have := HK1.out; first | omega | exact Nat.le_refl _⟩, ⟨by (with_reducible repeat (first | apply Kd.R_alloc | apply Kd.R_drewN | apply Kd.R_drew)); exact HO_5.out⟩, ⟨by repeat (first | (with_reducible first | exact HB.out | apply below_alloc | apply pw_below_drewN | apply below_drew1) | exact HB.out)⟩⟩
          · rw [if_neg c5] at H
            have c5b0 : decide (x6_1 < 30) = false := decide_eq_false c5
            clear c5
            have H' := Aside0.mk H
            clear H
            go_wp2
            go_meet
            case rel => exact ⟨_, (false), (by first | rfl | (simp; done) | (simp [*]; done)), H', ⟨by have := HK1.out; first | omega | exact Nat.le_refl _⟩, ⟨by (with_reducible repeat (first | apply Kd.R_alloc | apply Kd.R_drewN | apply Kd.R_drew)); exact HO_5.out⟩, ⟨by repeat (first | (with_reducible first | exact HB.out | apply below_alloc | apply pw_below_drewN | apply below_drew1) | exact HB.out)⟩⟩
        · rw [if_neg c4] at H
          have c4b0 : decide (x6_1 < (l1.length : Int)) = false := decide_eq_false c4
          clear c4
          (first | rw [c4b0] | (simp only [i64_w, i32_w]; rw [c4b0]) | skip)
          have H' := Aside0.mk H
          clear H
          go_wp2
          go_meet
          case rel => exact ⟨_, (false), (by first | rfl | (simp; done) | (simp [*]; done)), H', ⟨by have := HK1.out; first | omega | exact Nat.le_refl _⟩, ⟨by (with_reducible repeat (first | apply Kd.R_alloc | apply Kd.R_drewN | apply Kd.R_drew)); exact HO_5.out⟩, ⟨by repeat (first | (with_reducible first | exact HB.out | apply below_alloc | apply pw_below_drewN | apply below_drew1) | exact HB.out)⟩⟩
      case rest =>
        clear HC3
        try clear c1
        try clear c2
        try clear p2
        try clear c4
        try clear c4b0
        try clear c5
        try clear c5b0
        try clear p2
        obtain ⟨kq, x20_2, rfl, HA, HJ2, HO_5, HB⟩ := hcut
        cases kq with
        | zero => exact absurd HA.out (by simp [spec_Less.j1])
        | succ kj2 =>
          have H := HA.out
          clear HA
          simp only [spec_Less.j1] at H
          by_cases c6 : x20_2 = true
          · subst c6
            have H1 : (if 0 ≤ x6_1 then (if x6_1 < (l1.length : Int) then (if (wrap64 ((l0.length : Int) - 2)) = 0 then (none) else (if 0 ≤ (wrap64 (2 + (Int.tmod (wrap64 (rd l1 x6_1)) (wrap64 ((l0.length : Int) - 2))))) then (if (wrap64 (2 + (Int.tmod (wrap64 (rd l1 x6_1)) (wrap64 ((l0.length : Int) - 2))))) < (l0.length : Int) then ((slices_Contains_string_string.f kj2 x5_1 (rdOf ByteArray.empty l0 (wrap64 (2 + (Int.tmod (wrap64 (rd l1 x6_1)) (wrap64 ((l0.length : Int) - 2))))))).bind fun t141 => (if t141 = true then (spec_Less.l0 kj2 l0 l1 x5_1 (wrap64 (x6_1 + 1))) else (if x5_1.length < 8796093022208 then (spec_Less.l0 kj2 l0 l1 (x5_1 ++ [rdOf ByteArray.empty l0 (wrap64 (2 + (Int.tmod (wrap64 (rd l1 x6_1)) (wrap64 ((l0.length : Int) - 2)))))]) (wrap64 (x6_1 + 1))) else (none)))) else (none)) else (none))) else (none)) else (none)) = some r := by rw [if_pos rfl] at H; exact H
            clear H
            have H := H1
            clear H1
            by_cases c7 : 0 ≤ x6_1
            · rw [if_pos c7] at H
              have c7b0 : decide (0 ≤ x6_1) = true := decide_eq_true c7
              clear c7
              by_cases c8 : x6_1 < (l1.length : Int)
              · rw [if_pos c8] at H
                have c8b0 : decide (x6_1 < (l1.length : Int)) = true := decide_eq_true c8
                clear c8
                by_cases c9 : (wrap64 ((l0.length : Int) - 2)) = 0
                · rw [if_pos c9] at H
                  exact absurd H (by simp)
                · rw [if_neg c9] at H
                  have c9b0 : ((wrap64 ((l0.length : Int) - 2)) == 0) = false := beq_eq_false_iff_ne.mpr c9
                  have c9b1 : ((wrap64 ((l0.length : Int) - 2)) != 0) = true := bne_iff_ne.mpr c9
                  obtain ⟨ji10, hji10⟩ : ∃ j_ : Int, (wrap64 (2 + (Int.tmod (wrap64 (rd l1 x6_1)) (wrap64 ((l0.length : Int) - 2))))) = j_ := ⟨_, rfl⟩
                  replace H : (if 0 ≤ (ji10) then (if (ji10) < (l0.length : Int) then ((slices_Contains_string_string.f kj2 x5_1 (rdOf ByteArray.empty l0 (ji10))).bind fun t141 => (if t141 = true then (spec_Less.l0 kj2 l0 l1 x5_1 (wrap64 (x6_1 + 1))) else (if x5_1.length < 8796093022208 then (spec_Less.l0 kj2 l0 l1 (x5_1 ++ [rdOf ByteArray.empty l0 (ji10)]) (wrap64 (x6_1 + 1))) else (none)))) else (none)) else (none)) = some r := by first | (rw [hji10] at H; exact H) | (simp only [hji10] at H ⊢; exact H)
                  have hji10w : (IntKind.i64.wrap (2 + (Int.tmod (wrap64 (rd l1 x6_1)) (wrap64 ((l0.length : Int) - 2))))) = ji10 := (i64_w _).trans hji10
                  by_cases c11 : 0 ≤ (ji10)
                  · rw [if_pos c11] at H
                    have c11b0 : decide (0 ≤ (ji10)) = true := decide_eq_true c11
                    clear c11
                    by_cases c12 : (ji10) < (l0.length : Int)
                    · rw [if_pos c12] at H
                      have c12b0 : decide ((ji10) < (l0.length : Int)) = true := decide_eq_true c12
                      clear c12
                      replace H := Option.bind_eq_some_iff.mp H
                      obtain ⟨t141, A130, H⟩ := H
                      replace H : (if t141 = true then (spec_Less.l0 kj2 l0 l1 x5_1 (wrap64 (x6_1 + 1))) else (if x5_1.length < 8796093022208 then (spec_Less.l0 kj2 l0 l1 (x5_1 ++ [rdOf ByteArray.empty l0 (ji10)]) (wrap64 (x6_1 + 1))) else (none))) = some r := H
                      have A13 := Aside0.mk A130
                      clear A130
                      by_cases c14 : t141 = true
                      · subst c14
                        have H1 : (spec_Less.l0 kj2 l0 l1 x5_1 (wrap64 (x6_1 + 1))) = some r := by rw [if_pos rfl] at H; exact H
                        clear H
                        have H := H1
                        clear H1
                        have H' := Aside0.mk H
                        clear H
                        have p139 : 0 ≤ (x6_1 : Int) := of_decide_eq_true (by first | (with_reducible assumption) | assumption)
                        have q139 : x6_1 < (l1.length : Int) := of_decide_eq_true (by first | (with_reducible assumption) | assumption)
                        obtain ⟨ad139, e139, hx139_0⟩ := Kd.at_int HR1.out x6_1 p139 q139
                        cases e139
                        replace hx139_0 := (HB.out.cell (World.block_lt_of_cell? w _ hx139_0)).trans hx139_0
                        replace p139 := eq_true p139
                        replace q139 := eq_true q139
                        have p140 : 0 ≤ ((ji10) : Int) := of_decide_eq_true (by first | (with_reducible assumption) | assumption)
                        have q140 : (ji10) < (l0.length : Int) := of_decide_eq_true (by first | (with_reducible assumption) | assumption)
                        obtain ⟨ad140, e140, hx140_0⟩ := Kd.at_string HR0.out (ji10) p140 q140
                        cases e140
                        replace hx140_0 := (HB.out.cell (World.block_lt_of_cell? w _ hx140_0)).trans hx140_0
                        replace p140 := eq_true p140
                        replace q140 := eq_true q140
                        obtain ⟨Ao15, co15, eo15⟩ := Kd.R_slice HO_5.out
                        subst eo15
                        go_wp2_with (first | ((with_reducible refine gate_callee (f := 45) rfl ?_); refine goesL_ (some 38) rfl rfl Try.func45 (by kernel_rfl) rfl #[.slice Ao15 x5_1.length co15, .string (rdOf ByteArray.empty l0 (ji10))] rfl (by (try simp only [List.map_toArray, List.map_cons, List.map_nil]); first | done | (simp only [hji10]; rfl) | rfl | (simp only [List.length_drop, List.length_take]; rfl)) ?_; (with_reducible refine (slices_Contains_string_string.calls kj2 _ _ x5_1 (rdOf ByteArray.empty l0 (ji10)) true _ ?side1 ?side2 A13.out).mono ?_); (case side1 => repeat (first | exact (Kd.R_reads' HO_5.out).2.2 | (with_reducible refine Kd.C_alloc ?_ _) | (with_reducible refine Kd.C_drewN ?_ _) | (with_reducible refine Kd.C_drew ?_))); (case side2 => exact (Kd.R_reads' HO_5.out).2.1); rintro e w' ⟨rfl, ⟨nd, rfl⟩⟩; refine ⟨_, rfl, ?_⟩))
                        go_roundg kj2
                        case measure => have := HK1.out; have := HJ2.out; omega
                        case rel => exact ⟨(x5_1), (wrap64 (x6_1 + 1)), (by first | rfl | (simp; done) | (simp [*]; done)), H', ⟨by have := HK1.out; have := HJ2.out; omega⟩, ⟨by (with_reducible repeat (first | apply Kd.R_alloc | apply Kd.R_drewN | apply Kd.R_drew)); exact HO_5.out⟩, ⟨by repeat (first | (with_reducible first | exact HB.out | apply below_alloc | apply pw_below_drewN | apply below_drew1) | exact HB.out)⟩⟩
                      · replace c14 := Bool.eq_false_iff.mpr c14
                        subst c14
                        have H1 : (if x5_1.length < 8796093022208 then (spec_Less.l0 kj2 l0 l1 (x5_1 ++ [rdOf ByteArray.empty l0 (ji10)]) (wrap64 (x6_1 + 1))) else (none)) = some r := by rw [if_neg (show ¬ (false = true) by decide)] at H; exact H
                        clear H
                        have H := H1
                        clear H1
                        by_cases c16 : x5_1.length < 8796093022208
                        · rw [if_pos c16] at H
                          have LMc16 := Aside0.mk c16
                          clear c16
                          obtain ⟨y142, hy142⟩ : ∃ y_ : List ByteArray, y_ = (x5_1 ++ [rdOf ByteArray.empty l0 (ji10)]) := ⟨_, rfl⟩
                          replace H : (spec_Less.l0 kj2 l0 l1 y142 (wrap64 (x6_1 + 1))) = some r := by first | (rw [hy142]; with_reducible exact H) | (have H2_ := (Option.bind_some _ _).symm.trans H; rw [hy142]; with_reducible exact H2_) | (have H2_ := (Option.bind_some _ _).symm.trans H; with_reducible exact H2_) | with_reducible exact H | (rw [hy142]; exact H) | exact H
                          have Ny142 := Aside0.mk hy142
                          clear hy142
                          have H' := Aside0.mk H
                          clear H
                          have p139 : 0 ≤ (x6_1 : Int) := of_decide_eq_true (by first | (with_reducible assumption) | assumption)
                          have q139 : x6_1 < (l1.length : Int) := of_decide_eq_true (by first | (with_reducible assumption) | assumption)
                          obtain ⟨ad139, e139, hx139_0⟩ := Kd.at_int HR1.out x6_1 p139 q139
                          cases e139
                          replace hx139_0 := (HB.out.cell (World.block_lt_of_cell? w _ hx139_0)).trans hx139_0
                          replace p139 := eq_true p139
                          replace q139 := eq_true q139
                          have p140 : 0 ≤ ((ji10) : Int) := of_decide_eq_true (by first | (with_reducible assumption) | assumption)
                          have q140 : (ji10) < (l0.length : Int) := of_decide_eq_true (by first | (with_reducible assumption) | assumption)
                          obtain ⟨ad140, e140, hx140_0⟩ := Kd.at_string HR0.out (ji10) p140 q140
                          cases e140
                          replace hx140_0 := (HB.out.cell (World.block_lt_of_cell? w _ hx140_0)).trans hx140_0
                          replace p140 := eq_true p140
                          replace q140 := eq_true q140
                          obtain ⟨Ao17, co17, eo17⟩ := Kd.R_slice HO_5.out
                          subst eo17
                          go_wp2_with (first | ((with_reducible refine gate_callee (f := 45) rfl ?_); refine goesL_ (some 38) rfl rfl Try.func45 (by kernel_rfl) rfl #[.slice Ao17 x5_1.length co17, .string (rdOf ByteArray.empty l0 (ji10))] rfl (by (try simp only [List.map_toArray, List.map_cons, List.map_nil]); first | done | (simp only [hji10]; rfl) | rfl | (simp only [List.length_drop, List.length_take]; rfl)) ?_; (with_reducible refine (slices_Contains_string_string.calls kj2 _ _ x5_1 (rdOf ByteArray.empty l0 (ji10)) false _ ?side1 ?side2 A13.out).mono ?_); (case side1 => repeat (first | exact (Kd.R_reads' HO_5.out).2.2 | (with_reducible refine Kd.C_alloc ?_ _) | (with_reducible refine Kd.C_drewN ?_ _) | (with_reducible refine Kd.C_drew ?_))); (case side2 => exact (Kd.R_reads' HO_5.out).2.1); rintro e w' ⟨rfl, ⟨nd, rfl⟩⟩; refine ⟨_, rfl, ?_⟩) | ((with_reducible refine gate_builtin (b := .append) (xs := #[.tmp 40, .tmp 42]) rfl ?_); (try (refine gate_guard (by rfl) ?_; dsimp only)); at_builtin; refine Kd.R_append Kd.string (w0 := w) w.heap.size rfl (.tmp 40) (.tmp 42) 23 9 (.string ⟨#[]⟩) 16 rfl Try.underlying23 info9 rfl (by decide) (by omega) (.slice Ao17 x5_1.length co17) x5_1 (rdOf ByteArray.empty l0 (ji10)) [.string (rdOf ByteArray.empty l0 (ji10))] (fun _ => True) (fun _ => False) rfl rfl ?aP (fun _ hk => hk.elim) ?aF ?aO ?aB ?aS ?aL ?_; (case aP => exact rfl); (case aB => exact (by repeat (first | (with_reducible first | exact HB.out | apply below_alloc | apply pw_below_drewN | apply below_drew1) | exact HB.out))); (case aF => exact (fun _ _ => trivial)); (case aO => exact (by (with_reducible repeat (first | apply Kd.R_alloc | apply Kd.R_drewN | apply Kd.R_drew)); exact HO_5.out)); (case aS => exact (below_size (by repeat (first | (with_reducible first | exact HB.out | apply below_alloc | apply pw_below_drewN | apply below_drew1) | exact HB.out)))); (case aL => have := LMc16.out; omega); intro v143 w18 ho hb hg hat; rw [← Ny142.out] at ho; have n0_ := Aside0.mk (hb); have n1_ := Aside0.mk (ho); clear HB; clear HO_5; have HB := n0_; have HO144 := n1_; clear n0_ n1_; clear ho hb hg hat))
                          go_roundg kj2
                          case measure => have := HK1.out; have := HJ2.out; omega
                          case rel => exact ⟨(y142), (wrap64 (x6_1 + 1)), (by first | rfl | (simp; done) | (simp [*]; done)), H', ⟨by have := HK1.out; have := HJ2.out; omega⟩, ⟨by (with_reducible repeat (first | apply Kd.R_alloc | apply Kd.R_drewN | apply Kd.R_drew)); exact HO144.out⟩, ⟨by repeat (first | (with_reducible first | exact HB.out | apply below_alloc | apply pw_below_drewN | apply below_drew1) | exact HB.out)⟩⟩
                        · rw [if_neg c16] at H
                          exact absurd H (by simp)
                    · rw [if_neg c12] at H
                      exact absurd H (by simp)
                  · rw [if_neg c11] at H
                    exact absurd H (by simp)
              · rw [if_neg c8] at H
                exact absurd H (by simp)
            · rw [if_neg c7] at H
              exact absurd H (by simp)
          · replace c6 := Bool.eq_false_iff.mpr c6
            subst c6
            have H1 : (some x5_1) = some r := by rw [if_neg (show ¬ (false = true) by decide)] at H; exact H
            clear H
            have H := H1
            clear H1
            obtain rfl := Option.some.inj H
            go_wp2
            go_ret
            exact ⟨_, by first | rfl | (simp [errW_none, errW_some] <;> rfl) | (simp [*, errW_none, errW_some] <;> rfl), by (with_reducible repeat (first | apply Kd.R_alloc | apply Kd.R_drewN | apply Kd.R_drew)); exact HO_5.out, by repeat (first | (with_reducible first | exact HB.out | apply below_alloc | apply pw_below_drewN | apply below_drew1) | exact HB.out)⟩

-- NOT PRINTED: function 63 (patricia_Trie_Get)

-- NOT PRINTED: function 64 (patricia_Trie_Match)

-- NOT PRINTED: function 40 (impl_item)

-- NOT PRINTED: function 66 (patricia_Trie_findSubtreePath)

-- NOT PRINTED: function 67 (patricia_Trie_reset)

-- NOT PRINTED: function 46 (patricia_Trie_Delete)

-- NOT PRINTED: function 47 (impl_drop)

-- NOT PRINTED: function 25 (impl_At)

/-! ### spec_At: function 26 -/
def spec_At.f (k : Nat) (l0 : List ByteArray) (l1 : List ByteArray) (a2 : ByteArray) : Option (Int × Bool) := (slices_Index_string_string.f k l0 a2).bind fun t145 => (if t145 < 0 then (some (0, false)) else ((slices_Contains_string_string.f k l1 a2).bind fun t146 => (if t146 = true then (some (0, false)) else (some (t145, true)))))
theorem spec_At.mono : ∀ a0 a1 a2 k, LeO (spec_At.f k a0 a1 a2) (spec_At.f (k + 1) a0 a1 a2) := by
  intro a0 a1 a2 k
  unfold spec_At.f
  repeat' first
      | (with_reducible exact slices_Contains_string_string.mono _ _ _)
      | (with_reducible exact slices_Index_string_string.mono _ _ _)
      | (with_reducible exact LeO.refl _)
      | (with_reducible exact LeO.none _)
      | (with_reducible refine LeO.ite ?_ ?_)
      | (with_reducible refine LeO.bind ?_ (fun _ => ?_))
      | exact slices_Contains_string_string.mono _ _ _
      | exact slices_Index_string_string.mono _ _ _
      | exact LeO.none _
      | refine LeO.ite ?_ ?_
      | refine LeO.bind ?_ (fun _ => ?_)
set_option maxHeartbeats 8000000 in
set_option maxRecDepth 100000 in
theorem spec_At.calls (k : Nat) (A0 : Option Addr) (c0 : Nat) (l0 : List ByteArray) (A1 : Option Addr) (c1 : Nat) (l1 : List ByteArray) (a2 : ByteArray) (r1 : Int) (r2 : Bool) (w : World) (hr0 : Kd.C Kd.string w A0 l0.length l0) (hc0 : l0.length ≤ c0) (hr1 : Kd.C Kd.string w A1 l1.length l1) (hc1 : l1.length ≤ c1) (h : spec_At.f k l0 l1 a2 = some (r1, r2)) :
    Calls Try.prog 26 #[.slice A0 l0.length c0, .slice A1 l1.length c1, .string a2] w fun e w' => e = .returned (.tuple #[.int .i64 r1, .bool r2]) ∧ Drawn0 w w' := by
  have HR0 := Aside0.mk hr0
  have HC0 := Aside0.mk hc0
  clear hr0 hc0
  have HR1 := Aside0.mk hr1
  have HC1 := Aside0.mk hc1
  clear hr1 hc1
  have H : ((slices_Index_string_string.f k l0 a2).bind fun t145 => (if t145 < 0 then (some (0, false)) else ((slices_Contains_string_string.f k l1 a2).bind fun t146 => (if t146 = true then (some (0, false)) else (some (t145, true)))))) = some (r1, r2) := h
  clear h
  replace H := Option.bind_eq_some_iff.mp H
  obtain ⟨t145, A40, H⟩ := H
  replace H : (if t145 < 0 then (some (0, false)) else ((slices_Contains_string_string.f k l1 a2).bind fun t146 => (if t146 = true then (some (0, false)) else (some (t145, true))))) = some (r1, r2) := H
  have A4 := Aside0.mk A40
  clear A40
  by_cases c5 : t145 < 0
  · rw [if_pos c5] at H
    have c5b0 : decide (t145 < 0) = true := decide_eq_true c5
    clear c5
    simp only [Option.some.injEq, Prod.mk.injEq] at H
    obtain ⟨rfl, rfl⟩ := H
    go_enter Try.func26, Try.ntmps26
    go_wp2_with (first | ((with_reducible refine gate_callee (f := 48) rfl ?_); refine goesL_ (some 11) rfl rfl Try.func48 (by kernel_rfl) rfl #[.slice A0 l0.length c0, .string a2] rfl (by (try simp only [List.map_toArray, List.map_cons, List.map_nil]); first | done | rfl | (simp only [List.length_drop, List.length_take]; rfl)) ?_; (with_reducible refine (slices_Index_string_string.calls k _ _ l0 a2 t145 _ ?side1 ?side2 A4.out).mono ?_); (case side1 => repeat (first | exact HR0.out | (with_reducible refine Kd.C_alloc ?_ _) | (with_reducible refine Kd.C_drewN ?_ _) | (with_reducible refine Kd.C_drew ?_))); (case side2 => exact HC0.out); rintro e w' ⟨rfl, ⟨nd, rfl⟩⟩; refine ⟨_, rfl, ?_⟩))
    go_ret2
    exact ⟨by first | rfl | (simp; done) | (simp [*]; done), by repeat (first | exact Drawn0.refl _ | apply Drawn0.step)⟩
  · rw [if_neg c5] at H
    have c5b0 : decide (t145 < 0) = false := decide_eq_false c5
    clear c5
    replace H := Option.bind_eq_some_iff.mp H
    obtain ⟨t146, A60, H⟩ := H
    replace H : (if t146 = true then (some (0, false)) else (some (t145, true))) = some (r1, r2) := H
    have A6 := Aside0.mk A60
    clear A60
    by_cases c7 : t146 = true
    · subst c7
      have H1 : (some (0, false)) = some (r1, r2) := by rw [if_pos rfl] at H; exact H
      clear H
      have H := H1
      clear H1
      simp only [Option.some.injEq, Prod.mk.injEq] at H
      obtain ⟨rfl, rfl⟩ := H
      go_enter Try.func26, Try.ntmps26
      go_wp2_with (first | ((with_reducible refine gate_callee (f := 48) rfl ?_); refine goesL_ (some 11) rfl rfl Try.func48 (by kernel_rfl) rfl #[.slice A0 l0.length c0, .string a2] rfl (by (try simp only [List.map_toArray, List.map_cons, List.map_nil]); first | done | rfl | (simp only [List.length_drop, List.length_take]; rfl)) ?_; (with_reducible refine (slices_Index_string_string.calls k _ _ l0 a2 t145 _ ?side1 ?side2 A4.out).mono ?_); (case side1 => repeat (first | exact HR0.out | (with_reducible refine Kd.C_alloc ?_ _) | (with_reducible refine Kd.C_drewN ?_ _) | (with_reducible refine Kd.C_drew ?_))); (case side2 => exact HC0.out); rintro e w' ⟨rfl, ⟨nd, rfl⟩⟩; refine ⟨_, rfl, ?_⟩) | (go_at_call 45; (with_reducible refine (slices_Contains_string_string.calls k _ _ l1 a2 true _ ?side1 ?side2 A6.out).mono ?_); (case side1 => repeat (first | exact HR1.out | (with_reducible refine Kd.C_alloc ?_ _) | (with_reducible refine Kd.C_drewN ?_ _) | (with_reducible refine Kd.C_drew ?_))); (case side2 => exact HC1.out); rintro e w' ⟨rfl, ⟨nd, rfl⟩⟩))
      go_ret2
      exact ⟨by first | rfl | (simp; done) | (simp [*]; done), by repeat (first | exact Drawn0.refl _ | apply Drawn0.step)⟩
    · replace c7 := Bool.eq_false_iff.mpr c7
      subst c7
      have H1 : (some (t145, true)) = some (r1, r2) := by rw [if_neg (show ¬ (false = true) by decide)] at H; exact H
      clear H
      have H := H1
      clear H1
      simp only [Option.some.injEq, Prod.mk.injEq] at H
      obtain ⟨rfl, rfl⟩ := H
      go_enter Try.func26, Try.ntmps26
      go_wp2_with (first | ((with_reducible refine gate_callee (f := 48) rfl ?_); refine goesL_ (some 11) rfl rfl Try.func48 (by kernel_rfl) rfl #[.slice A0 l0.length c0, .string a2] rfl (by (try simp only [List.map_toArray, List.map_cons, List.map_nil]); first | done | rfl | (simp only [List.length_drop, List.length_take]; rfl)) ?_; (with_reducible refine (slices_Index_string_string.calls k _ _ l0 a2 t145 _ ?side1 ?side2 A4.out).mono ?_); (case side1 => repeat (first | exact HR0.out | (with_reducible refine Kd.C_alloc ?_ _) | (with_reducible refine Kd.C_drewN ?_ _) | (with_reducible refine Kd.C_drew ?_))); (case side2 => exact HC0.out); rintro e w' ⟨rfl, ⟨nd, rfl⟩⟩; refine ⟨_, rfl, ?_⟩) | (go_at_call 45; (with_reducible refine (slices_Contains_string_string.calls k _ _ l1 a2 false _ ?side1 ?side2 A6.out).mono ?_); (case side1 => repeat (first | exact HR1.out | (with_reducible refine Kd.C_alloc ?_ _) | (with_reducible refine Kd.C_drewN ?_ _) | (with_reducible refine Kd.C_drew ?_))); (case side2 => exact HC1.out); rintro e w' ⟨rfl, ⟨nd, rfl⟩⟩))
      go_ret2
      exact ⟨by first | rfl | (simp; done) | (simp [*]; done), by repeat (first | exact Drawn0.refl _ | apply Drawn0.step)⟩

-- NOT PRINTED: function 6 (laws_FnExactAt)

end Go.Proofs.Ytmdbnjepajifpaa.PFnExactAt
