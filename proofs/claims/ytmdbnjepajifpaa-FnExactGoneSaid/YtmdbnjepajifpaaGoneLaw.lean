/- FnExactGone: a word that is there is deleted. No condition: for every input the law returns true. -/
import Derived.Test.YtmdbnjepajifpaaLessPFnExactAt
import Derived.Test.YtmdbnjepajifpaaGone
import Derived.Test.YtmdbnjepajifpaaAddedLaw
namespace Go.Proofs.Ytmdbnjepajifpaa.GoneLaw
open Go.RowKit Go.Proofs.YtmdbnjepajifpaaW.PrintWords Go.Proofs.YtmdbnjepajifpaaW.PrintLast Go.Proofs.YtmdbnjepajifpaaW.PrintMore Go.Proofs.Ytmdbnjepajifpaa.PFnExactAt Go.Proofs.Ytmdbnjepajifpaa Go.Proofs.Ytmdbnjepajifpaa.WsFnExactAt

theorem spec_gone (w : World) (A0 : Option Addr) (c0 : Nat) (ws : List ByteArray) (h0 : Kd.C Kd.string w A0 ws.length ws) (hc0 : ws.length ≤ c0) (hws : ws.length ≤ 42) (A1 : Option Addr) (c1 : Nat) (gs : List ByteArray) (h1 : Kd.C Kd.string w A1 gs.length gs) (hc1 : gs.length ≤ c1) (RG : Row w (.slice A1 gs.length c1) gs)
    (L : LessOk ws gs) : Calls Try.prog 24 #[.slice A0 ws.length c0, .slice A1 gs.length c1] w fun e w' => ∃ v0 : Value, e = .returned v0 ∧ Kd.R Kd.bool 4 w' w.heap.size (fun _ => True) v0 (List.replicate gs.length true) ∧ Tch w w' (fun _ => False) := by
  obtain ⟨A1', c1', he, hcell⟩ := RG.slice'
  injection he with e1 e2 e3
  subst e1 e3
  have HCELL := Lib.hid hcell
  have HL := Lib.hid L
  have hlen := L.len
  have hin : ∀ s, s ∈ gs → s ∈ ws := fun s hs => List.mem_of_mem_drop (L.mem s hs)
  have HC : Hid (∀ W, Tch w W (fun _ => False) → ∀ j s, gs[j]? = some s → (Calls Try.prog 45 #[.slice A0 ws.length c0, .string s] W fun e w' => e = .returned (.bool true) ∧ Drawn0 W w') ∧
      ∀ n, Calls Try.prog 45 #[.slice A1 j c1, .string s] (W.drewN n) fun e w' => e = .returned (.bool false) ∧ Drawn0 (W.drewN n) w') := by
    show ∀ W, _
    intro W hT j s hs
    have hB : Below w.heap.size w W := hT.below (fun _ _ h => h.elim) (Nat.le_refl _)
    have hj := (List.getElem?_eq_some_iff.1 hs).1
    obtain ⟨b, hb, hbi⟩ := contains_ok ws s (by omega) 100 (by omega)
    have hbt : b = true := hbi.2 (hin s (List.mem_of_getElem? hs))
    subst hbt
    obtain ⟨b2, hb2, hbi2⟩ := contains_ok (gs.take j) s (by rw [List.length_take]; omega) 100 (by rw [List.length_take]; omega)
    have hbf : b2 = false := by
      cases b2 with
      | false => rfl
      | true =>
        exfalso
        obtain ⟨i, hi, hie⟩ := List.mem_take_iff_getElem.1 (hbi2.1 rfl)
        have hlt : i < gs.length := by omega
        have := (List.getElem?_inj hlt L.nodup).1 (show gs[i]? = gs[j]? by rw [hs, List.getElem?_eq_getElem hlt, hie])
        omega
    subst hbf
    refine ⟨slices_Contains_string_string.calls 100 A0 c0 ws s true W (Kd.C_below h0 hB) hc0 hb, fun n => ?_⟩
    have h := slices_Contains_string_string.calls 100 A1 c1 (gs.take j) s false (W.drewN n) (Kd.C_drewN (Kd.C_take (Kd.C_below h1 hB) (by omega)) n) (by rw [List.length_take]; omega) hb2
    rw [List.length_take, Nat.min_eq_left (by omega)] at h
    exact h
  clear hcell h0 h1 RG L e2 hin
  go_enter Try.func24, Try.ntmps24
  go_wp2_with fail
  go_loopw [10, 5] (fun i out wr => ∃ (j : Nat) (v1 : Value), j ≤ gs.length ∧ i = .int .i64 (j : Int) ∧ v1 = out ∧ Hid (Tch w wr (fun _ => False) ∧ Kd.R Kd.bool 4 wr w.heap.size (fun _ => True) v1 (List.replicate j true))) (fun i _ _ => gs.length - (intOf i).toNat)
  case atStart => exact ⟨0, _, Nat.zero_le _, rfl, rfl, (⟨Tch.refl _ _, Kd.R_nil _ _ _ _ _⟩ : _ ∧ _)⟩
  case round =>
    obtain ⟨j, vo, hjl, rfl, rfl, HI⟩ := hrel
    by_cases hj : j < gs.length
    · have hj' : (j : Int) < (gs.length : Int) := by omega
      obtain ⟨s, hs⟩ : ∃ s, gs[j]? = some s := ⟨_, List.getElem?_eq_getElem hj⟩
      obtain ⟨b, rfl, hc0⟩ := HCELL.out wr HI.out.1 j s hs
      have hct := HC.out wr HI.out.1 j s hs
      have H1 := Lib.hid hct.1
      have H2 := Lib.hid hct.2
      have hjc : (j : Int) ≤ (c1 : Int) := by omega
      clear hs hct
      go_wp2_with fail
      refine H1.out.mono ?_
      rintro e w2 ⟨rfl, hD⟩
      obtain ⟨n1, rfl⟩ := hD.out
      go_wp2_with fail
      refine (H2.out n1).mono ?_
      rintro e w2 ⟨rfl, hD⟩
      obtain ⟨n2, rfl⟩ := hD.out
      have hR2 : Hid (Kd.R Kd.bool 4 ((wr.drewN n1).drewN n2) w.heap.size (fun _ => True) vo (List.replicate j true) ∧ Below w.heap.size w ((wr.drewN n1).drewN n2) ∧ ((List.replicate j true).length + 1) * 1 ≤ 140737488355328 ∧ w.heap.size ≤ ((wr.drewN n1).drewN n2).heap.size) :=
        (⟨Kd.R_drewN (Kd.R_drewN HI.out.2 n1) n2, ((HI.out.1.drn n1).drn n2).below (fun _ _ h => h.elim) (Nat.le_refl _), by simp; omega, HI.out.1.size⟩ : _ ∧ _ ∧ _ ∧ _)
      generalize (wr.drewN n1).drewN n2 = W2 at hR2 ⊢
      go_wp2_with (first | ((with_reducible refine gate_builtin (b := .append) (xs := #[.tmp 15, .tmp 27]) rfl ?_); at_builtin; go_loud (refine Kd.R_append Kd.bool (w0 := w) w.heap.size rfl (.tmp 15) (.tmp 27) 33 4 (.bool false) 1 rfl Try.underlying33 infoBool rfl (by decide) (by omega) vo (List.replicate j true) true [.bool true] (fun _ => True) (fun _ => False) rfl rfl rfl (fun _ hk => hk.elim) (fun _ _ => trivial) hR2.out.1 hR2.out.2.1 hR2.out.2.2.2 hR2.out.2.2.1 ?_); intro v1 w3 r1 r2 r3 r4; have HR3 := Lib.hid (⟨r1, r2⟩ : _ ∧ _); clear r1 r2 r3 r4))
      have HRR : Hid (Tch w w3 (fun _ => False) ∧ Kd.R Kd.bool 4 w3 w.heap.size (fun _ => True) v1 (List.replicate (j + 1) true)) := by
        refine (⟨tch_of_below HR3.out.2, ?_⟩ : _ ∧ _)
        rw [List.replicate_succ']
        exact HR3.out.1
      clear HR3 hR2 H1 H2
      go_roundw
      case rel => exact ⟨j + 1, v1, by omega, by go_num, rfl, HRR⟩
      case measure => simp [intOf]; omega
    · have hj' : ¬ (j : Int) < (gs.length : Int) := by omega
      have hjl : j = gs.length := by omega
      subst hjl
      go_wp2_with fail
      go_ret
      exact ⟨_, rfl, HI.out.2, HI.out.1⟩

set_option maxRecDepth 100000 in
set_option maxHeartbeats 3200000 in
theorem walk (a0 a1 : Int) (A2 A3 : Option Addr) (c2 c3 : Nat) (l2 l3 : List Int) (w : World) (h0 : 0 ≤ a0 ∧ a0 < 256) (h1 : 0 ≤ a1 ∧ a1 < 256)
    (hr2 : Kd.C (Kd.int .u8) w A2 l2.length l2) (hc2 : l2.length ≤ c2) (hl2 : ∀ x, x ∈ l2 → 0 ≤ x ∧ x < 256) (hr3 : Kd.C (Kd.int .u8) w A3 l3.length l3) (hc3 : l3.length ≤ c3) (hl3 : ∀ x, x ∈ l3 → 0 ≤ x ∧ x < 256) :
    Calls Try.prog 5 #[.int .u8 a0, .int .u8 a1, .slice A2 l2.length c2, .slice A3 l3.length c3] w (fun e w' => e = .returned (.bool true) ∧ Below w.heap.size w w') := by
  obtain ⟨ws, hws, hok⟩ := put_ok l2 hl2 (l2.length + 9) (by omega)
  have hmax := hok.max
  obtain ⟨gs, hgs, hgo⟩ := less_ok ws hmax l3 hl3 101 (by omega)
  obtain ⟨n, hn, hn1, hn2⟩ := node_ok a0 h0
  obtain ⟨m, hm, hm1, hm2⟩ := sparse_ok a1 h1
  have hgl := hgo.len
  have hsame := AddedLaw.same_ok (List.replicate gs.length true) (by simp; omega) (gs.length + 1) (by simp)
  have P1 := Lib.hid (spec_Put.calls (l2.length + 9) A2 c2 l2 ws w hr2 hc2 hws)
  have P2 : Hid (∀ w1, Tch w w1 (fun _ => False) → ∀ A0 c0, Kd.C Kd.string w1 A0 ws.length ws → ws.length ≤ c0 → _) := fun w1 (hT : Tch w w1 (fun _ => False)) A0 c0 (h : Kd.C Kd.string w1 A0 ws.length ws) (h' : ws.length ≤ c0) => spec_Less.calls 101 A0 c0 ws A3 c3 l3 gs w1 h h' (Kd.C_below hr3 (hT.below (B := w.heap.size) (fun _ _ h => h.elim) (Nat.le_refl _))) hc3 hgs
  have P3 := Lib.hid (fun w1 => spec_Node.calls a0 n w1 hn)
  have P4 := Lib.hid (fun w1 => spec_Sparse.calls a1 m w1 hm)
  have HO := Lib.hid (⟨hok, hgo, hn1, hm1, hm2, hsame⟩ : _ ∧ _ ∧ _ ∧ _ ∧ _ ∧ _)
  clear hr2 hr3 hws hgs hn hm hok hgo hsame
  by_cases g2 : (l2.length : Int) > 2147483647
  · go_enter Try.func5, Try.ntmps5
    go_wp2_with fail
    all_goals
      go_ret
      exact ⟨rfl, Below.refl _ _⟩
  · by_cases g3 : (l3.length : Int) > 2147483647
    · go_enter Try.func5, Try.ntmps5
      go_wp2_with fail
      all_goals
        go_ret
        exact ⟨rfl, Below.refl _ _⟩
    · go_enter Try.func5, Try.ntmps5
      go_wp2_with fail
      refine P1.out.mono ?_
      rintro e w1 ⟨v, rfl, hR, hB1⟩
      have hrow := row_of hR
      have hws2 := HO.out.1.ws
      obtain ⟨g, c, rfl, hg, hgc, hcell⟩ := hrow.slice (by rintro rfl; have := hws2.two; simp at this)
      have hrow1 : Row w1 (.slice (some ⟨g, 0, none⟩) ws.length c) ws := row_of hR
      obtain ⟨A', c', e', hl', hC⟩ := Kd.R_reads hR
      injection e' with e1 e2 e3
      subst e1
      have HR1 := Lib.hid (⟨hC, hrow1, tch_below hB1⟩ : _ ∧ _ ∧ _)
      clear hR hrow hrow1 hcell hB1 hws2 hC hl' e2 e3
      go_wp2_with fail
      refine (P2.out w1 HR1.out.2.2 (some ⟨g, 0, none⟩) c HR1.out.1 hgc).mono ?_
      rintro e w2 ⟨v2, rfl, hR2, hB2⟩
      have hrow2 := row_of hR2
      obtain ⟨A2', c2', rfl, hl2', hC2⟩ := Kd.R_reads hR2
      have HR2 := Lib.hid (⟨hC2, hrow2, tch_below hB2⟩ : _ ∧ _ ∧ _)
      clear hR2 hrow2 hC2 hB2
      go_wp2_with fail
      refine (P3.out w2).mono ?_
      rintro e w3 ⟨rfl, hD3⟩
      have HB3 := Lib.hid (tch_below hD3.below)
      clear hD3
      go_wp2_with fail
      refine (P4.out w3).mono ?_
      rintro e w4 ⟨rfl, hD4⟩
      have HB4 := Lib.hid (tch_below hD4.below)
      clear hD4
      have hT24 : Hid (Tch w2 w4 (fun _ => False)) := HB3.out.trans HB4.out (fun _ _ h => h)
      have hT14 : Hid (Tch w1 w4 (fun _ => False)) := HR2.out.2.2.trans hT24.out (fun _ _ h => h)
      have hL := Lib.hid (gone_any w4 n m HO.out.2.2.1 HO.out.2.2.2.1 (by have := HO.out.2.2.2.2.1; omega) _ ws HO.out.1.ws (Row.tchF HR1.out.2.1 hT14.out) (by omega) _ gs (Row.tchF HR2.out.2.1 hT24.out) (less_go HO.out.1 HO.out.2.1 false rfl) (by omega))
      go_wp2_with fail
      refine hL.out.mono ?_
      rintro e w5 ⟨v5, rfl, hR5, hT5⟩
      have HT25 : Hid (Tch w2 w5 (fun _ => False)) := hT24.out.trans hT5 (fun _ _ h => h)
      have HT15 : Hid (Tch w1 w5 (fun _ => False)) := hT14.out.trans hT5 (fun _ _ h => h)
      clear hT5
      have hS := Lib.hid (spec_gone w5 (some ⟨g, 0, none⟩) c ws (Kd.C_below HR1.out.1 (HT15.out.below (B := w1.heap.size) (fun _ _ h => h.elim) (Nat.le_refl _))) hgc hmax A2' c2' gs (Kd.C_below HR2.out.1 (HT25.out.below (B := w2.heap.size) (fun _ _ h => h.elim) (Nat.le_refl _))) hl2' (Row.tchF HR2.out.2.1 HT25.out) HO.out.2.1)
      obtain ⟨A5, c5, rfl, hl5, hC5⟩ := Kd.R_reads hR5
      have H5 := Lib.hid (⟨hl5, hC5⟩ : _ ∧ _)
      clear hR5 hl5 hC5
      go_wp2_with fail
      refine hS.out.mono ?_
      rintro e w6 ⟨v6, rfl, hR6, hT6⟩
      obtain ⟨A6, c6, rfl, hl6, hC6⟩ := Kd.R_reads hR6
      have hC56 := Kd.C_below H5.out.2 (hT6.below (B := w5.heap.size) (fun _ _ h => h.elim) (Nat.le_refl _))
      have hsm := PFnExactAdded.spec_SameTruths.calls (gs.length + 1) A5 c5 _ A6 c6 _ true w6 hC56 H5.out.1 hC6 hl6 HO.out.2.2.2.2.2
      rw [List.length_replicate] at hsm
      have hSame := Lib.hid hsm
      clear hsm
      have HT6 : Hid (Tch w w6 (fun _ => False)) := (HR1.out.2.2.trans HT15.out (fun _ _ h => h)).trans hT6 (fun _ _ h => h)
      clear hR6 hl6 hC6 hC56 hT6
      go_wp2_with fail
      refine hSame.out.mono ?_
      rintro e w6' ⟨rfl, hD6⟩
      have HT6' : Hid (Tch w w6' (fun _ => False)) := HT6.out.trans (tch_below hD6.below) (fun _ _ h => h)
      clear hD6
      go_wp2_with fail
      refine (has_true _ w6'.heap.size (heap_new w6' _)).mono ?_
      rintro e w7 ⟨rfl, hT7⟩
      have HT7 : Hid (Tch w w7 (fun _ => False)) := (HT6'.out.alloc _).trans hT7 (fun _ _ h => h)
      clear hT7
      go_wp2_with fail
      go_ret
      exact ⟨rfl, HT7.out.below (fun _ _ h => h.elim) (Nat.le_refl _)⟩

end Go.Proofs.Ytmdbnjepajifpaa.GoneLaw
