/- FnExactCut: when all beneath a prefix are deleted, the others are left. No condition: for every input the law returns true. -/
import Derived.Test.YtmdbnjepajifpaaGreatSortLFnExactKeys
import Derived.Test.YtmdbnjepajifpaaGreatOneFnExactCut
import Derived.Test.YtmdbnjepajifpaaGreatFCutFnExactKeys
import Derived.Test.YtmdbnjepajifpaaGreatFUnderFnExactKeys
import Derived.Test.YtmdbnjepajifpaaGreatSameFnExactKeys
import Derived.Test.YtmdbnjepajifpaaGreatCutI
set_option linter.unusedVariables false
set_option linter.unusedSimpArgs false
namespace Go.Proofs.YtmdbnjepajifpaaGreat.CutLaw
open Go.RowKit Go.Proofs.YtmdbnjepajifpaaGreatW.PrintWords Go.Proofs.YtmdbnjepajifpaaGreatW.PrintLast Go.Proofs.YtmdbnjepajifpaaGreatW.PrintMore Go.Proofs.YtmdbnjepajifpaaGreat.PFnExactKeys Go.Proofs.YtmdbnjepajifpaaGreat Go.Proofs.YtmdbnjepajifpaaGreat.WsFnExactKeys

set_option maxRecDepth 100000 in
set_option maxHeartbeats 3200000 in
theorem walk (a0 a1 : Int) (A2 A3 : Option Addr) (c2 c3 : Nat) (l2 l3 : List Int) (w : World) (h0 : 0 ≤ a0 ∧ a0 < 256) (h1 : 0 ≤ a1 ∧ a1 < 256)
    (hr2 : Kd.C (Kd.int .u8) w A2 l2.length l2) (hc2 : l2.length ≤ c2) (hl2 : ∀ x, x ∈ l2 → 0 ≤ x ∧ x < 256) (hr3 : Kd.C (Kd.int .u8) w A3 l3.length l3) (hc3 : l3.length ≤ c3) (hl3 : ∀ x, x ∈ l3 → 0 ≤ x ∧ x < 256) :
    Calls Tryz.prog 3 #[.int .u8 a0, .int .u8 a1, .slice A2 l2.length c2, .slice A3 l3.length c3] w (fun e w' => e = .returned (.bool true) ∧ Below w.heap.size w w') := by
  obtain ⟨ws, hws, hok⟩ := put_ok l2 hl2 (l2.length + 9) (by omega)
  obtain ⟨s, hs, hsok⟩ := WsFnExactCut.one_ok l3 hl3 8 (by omega)
  obtain ⟨n, hn, hn1, hn2⟩ := node_ok a0 h0
  obtain ⟨m, hm, hm1, hm2⟩ := sparse_ok a1 h1
  have hmax := hok.max
  have hs5 := hsok.2.1
  have P1 := Lib.hid (spec_Put.calls (l2.length + 9) A2 c2 l2 ws w hr2 hc2 hws)
  have P2 : Hid (∀ w1, Tch w w1 (fun _ => False) → _) := fun w1 (hT : Tch w w1 (fun _ => False)) => PFnExactCut.spec_One.calls 8 A3 c3 l3 s w1 (Kd.C_below hr3 (hT.below (B := w.heap.size) (fun _ _ h => h.elim) (Nat.le_refl _))) hc3 hs
  have P3 := Lib.hid (fun w1 => spec_Node.calls a0 n w1 hn)
  have P4 := Lib.hid (fun w1 => spec_Sparse.calls a1 m w1 hm)
  have HO := Lib.hid (⟨hok, hsok, hn1, hm1, hm2⟩ : _ ∧ _ ∧ _ ∧ _ ∧ _)
  have hne : ws ≠ [] := by rintro rfl; have := hok.ws.two; simp at this
  have hlen : ∀ s, s ∈ ws → s.size ≤ 1000 := fun s hs => by have := (hok.ws.len s hs).2; omega
  have HNL := Lib.hid (⟨hne, hlen⟩ : _ ∧ _)
  clear hr2 hr3 hws hs hn hm hok hsok hne hlen
  by_cases g2 : (l2.length : Int) > 2147483647
  · go_enter Tryz.func3, Tryz.ntmps3
    go_wp2_with fail
    all_goals
      go_ret
      exact ⟨rfl, Below.refl _ _⟩
  · by_cases g3 : (l3.length : Int) > 2147483647
    · go_enter Tryz.func3, Tryz.ntmps3
      go_wp2_with fail
      all_goals
        go_ret
        exact ⟨rfl, Below.refl _ _⟩
    · go_enter Tryz.func3, Tryz.ntmps3
      go_wp2_with fail
      refine P1.out.mono ?_
      rintro e w1 ⟨v, rfl, hR, hB1⟩
      have hrow := row_of hR
      have hws2 := HO.out.1.ws
      obtain ⟨g, c, rfl, hg, hgc, hcell⟩ := hrow.slice (by rintro rfl; have := hws2.two; simp at this)
      have hrow1 : Row w1 (.slice (some ⟨g, 0, none⟩) ws.length c) ws := row_of hR
      obtain ⟨A', c', e', hl', hC⟩ := Kd.R_reads hR
      injection e' with e1 e2 e3
      subst e1
      have HR1 := Lib.hid (⟨hC, hrow1, tch_below hB1⟩ : _ ∧ _ ∧ _)
      clear hR hrow hrow1 hcell hB1 hws2 hC hl' e2 e3
      go_wp2_with fail
      refine (P2.out w1 HR1.out.2.2).mono ?_
      rintro e w2 ⟨rfl, hB2⟩
      have HB2 := Lib.hid (tch_below hB2)
      clear hB2
      go_wp2_with fail
      refine (P3.out w2).mono ?_
      rintro e w3 ⟨rfl, hD3⟩
      have HB3 := Lib.hid (tch_below hD3.below)
      clear hD3
      go_wp2_with fail
      refine (P4.out w3).mono ?_
      rintro e w4 ⟨rfl, hD4⟩
      have HB4 := Lib.hid (tch_below hD4.below)
      clear hD4
      have hT4 : Hid (Tch w1 w4 (fun _ => False)) := (HB2.out.trans HB3.out (fun _ _ h => h)).trans HB4.out (fun _ _ h => h)
      have hL := Lib.hid (cut_impl w4 n m HO.out.2.2.1 HO.out.2.2.2.1 (by have := HO.out.2.2.2.2; omega) _ ws HO.out.1.ws (Row.tchF HR1.out.2.1 hT4.out) (by omega) s (by have := HO.out.2.1.1; omega) (by omega))
      go_wp2_with fail
      refine hL.out.mono ?_
      rintro e w5 ⟨v5, T5, bb, rfl, hR5, hS5, hm5, hb5, hT5⟩
      have HT5 : Hid (Tch w1 w5 (fun _ => False)) := hT4.out.trans hT5 (fun _ _ h => h)
      have hS := Lib.hid (cut_any sortC w5 (some ⟨g, 0, none⟩) c ws (Row.tchF HR1.out.2.1 HT5.out) (by omega) HNL.out.1 HNL.out.2 s (by omega))
      have HBB := Lib.hid hb5
      obtain ⟨A5, c5, rfl, hl5c, hC5⟩ := Kd.R_reads hR5
      rw [List.length_map] at hC5 ⊢
      have H5 := Lib.hid (⟨hS5, hm5, hC5, hl5c⟩ : _ ∧ _ ∧ _ ∧ _)
      clear hb5 hR5 hS5 hm5 hT5 hC5 hl5c
      go_wp2_with fail
      refine hS.out.mono ?_
      rintro e w6' ⟨v6, T6, rfl, hR6, hS6, hm6, hl6, hT6⟩
      obtain rfl : T5 = T6 := imp_flt H5.out.1 H5.out.2.1 hS6 hm6
      obtain ⟨A6, c6, rfl, hl6c, hC6⟩ := Kd.R_reads hR6
      have hC56 := Kd.C_below H5.out.2.2.1 (hT6.below (B := w5.heap.size) (fun _ _ h => h.elim) (Nat.le_refl _))
      have hl5c := H5.out.2.2.2
      rw [List.length_map] at hl6c hl5c hC6 ⊢
      have hsm := PFnExactKeys.spec_Same.calls 300 A5 c5 (T5.map strB) A6 c6 (T5.map strB) true w6' (by rw [List.length_map]; exact hC56) (by rw [List.length_map]; exact hl5c) (by rw [List.length_map]; exact hC6) (by rw [List.length_map]; exact hl6c) (same_strs (T5.map strB) (by rw [List.length_map]; omega) 300 (by rw [List.length_map]; omega))
      rw [List.length_map] at hsm
      have hSame := Lib.hid hsm
      have HT6' : Hid (Tch w1 w6' (fun _ => False)) := HT5.out.trans hT6 (fun _ _ h => h)
      clear hR6 hS6 hm6 hl6 hT6 hl6c hC6 hC56 hl5c hsm
      go_wp2_with fail
      refine hSame.out.mono ?_
      rintro e w6s ⟨rfl, hD6⟩
      have HT6s : Hid (Tch w1 w6s (fun _ => False)) := HT6'.out.trans (tch_below hD6.below) (fun _ _ h => h)
      clear hD6
      have hU := Lib.hid (under_any sortC w6s (some ⟨g, 0, none⟩) c ws (Row.tchF HR1.out.2.1 HT6s.out) (by omega) HNL.out.1 HNL.out.2 s (by omega))
      go_wp2_with fail
      refine hU.out.mono ?_
      rintro e w6 ⟨v6, T, rfl, hR6, hS6, hm6, hl6, hT6⟩
      have HT6 : Hid (Tch w w6 (fun _ => False)) := (HR1.out.2.2.trans HT6s.out (fun _ _ h => h)).trans hT6 (fun _ _ h => h)
      obtain ⟨A7, c7, rfl, hl6c, _⟩ := Kd.R_reads hR6
      rw [List.length_map]
      have hiff : bb = true ↔ 0 < T.length := by
        rw [HBB.out]
        constructor
        · rintro ⟨k, hk, hpre⟩
          have h1 := (map_mem ws (strB k) ws.length (Nat.le_refl _)).1 (by rw [key_strB]; cases hx : mapOf false ws ws.length k with
            | none => exact absurd hx hk
            | some x => rfl)
          rw [List.take_length] at h1
          have h2 : k ∈ T := (hm6 k).2 ⟨⟨strB k, h1, key_strB k⟩, by show begB (strB k) s = true; unfold begB; rw [key_strB]; exact decide_eq_true hpre⟩
          exact List.length_pos_of_mem h2
        · intro h
          obtain ⟨k, hk⟩ := List.exists_mem_of_length_pos h
          obtain ⟨⟨u, hu, e⟩, h2⟩ := (hm6 k).1 hk
          refine ⟨k, ?_, ?_⟩
          · have h3 := (map_mem ws u ws.length (Nat.le_refl _)).2 (by rw [List.take_length]; exact hu)
            rw [e] at h3
            intro e2
            rw [e2] at h3
            cases h3
          · have h2 : begB (strB k) s = true := h2
            unfold begB at h2
            rw [key_strB] at h2
            exact of_decide_eq_true h2
      have HI := Lib.hid hiff
      clear hiff hR6 hS6 hm6 hT6
      cases bb with
      | true =>
        have g5 : (0 : Int) < (T.length : Int) := by have := HI.out.1 rfl; omega
        go_wp2_with fail
        refine (has_true _ w6.heap.size (heap_new w6 _)).mono ?_
        rintro e w7 ⟨rfl, hT7⟩
        have HT7 : Hid (Tch w w7 (fun _ => False)) := (HT6.out.alloc _).trans hT7 (fun _ _ h => h)
        clear hT7
        go_wp2_with fail
        go_ret
        exact ⟨rfl, HT7.out.below (fun _ _ h => h.elim) (Nat.le_refl _)⟩
      | false =>
        have g5 : ¬ (0 : Int) < (T.length : Int) := by
          intro h
          have := HI.out.2 (by omega)
          cases this
        have g6 : decide ((0 : Int) < (T.length : Int)) = false := by simpa using g5
        have g7 : decide (0 < T.length) = false := decide_eq_false (by omega)
        go_wp2_with fail
        refine (has_true _ w6.heap.size (heap_new w6 _)).mono ?_
        rintro e w7 ⟨rfl, hT7⟩
        have HT7 : Hid (Tch w w7 (fun _ => False)) := (HT6.out.alloc _).trans hT7 (fun _ _ h => h)
        clear hT7
        go_wp2_with fail
        go_ret
        exact ⟨rfl, HT7.out.below (fun _ _ h => h.elim) (Nat.le_refl _)⟩

end Go.Proofs.YtmdbnjepajifpaaGreat.CutLaw
