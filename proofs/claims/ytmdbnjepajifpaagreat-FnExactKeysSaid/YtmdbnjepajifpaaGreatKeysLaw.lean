/- FnExactKeys: a trie has each key that was put and not deleted, once, in order. No condition: for every input the law returns true. -/
import Derived.Test.YtmdbnjepajifpaaGreatLessPFnExactKeys
import Derived.Test.YtmdbnjepajifpaaGreatSortLFnExactKeys
import Derived.Test.YtmdbnjepajifpaaGreatSameFnExactKeys
import Derived.Test.YtmdbnjepajifpaaGreatKeysI
set_option linter.unusedVariables false
set_option linter.unusedSimpArgs false
namespace Go.Proofs.YtmdbnjepajifpaaGreat.KeysLaw
open Go.RowKit Go.Proofs.YtmdbnjepajifpaaGreatW.PrintWords Go.Proofs.YtmdbnjepajifpaaGreatW.PrintLast Go.Proofs.YtmdbnjepajifpaaGreatW.PrintMore Go.Proofs.YtmdbnjepajifpaaGreat.PFnExactKeys Go.Proofs.YtmdbnjepajifpaaGreat Go.Proofs.YtmdbnjepajifpaaGreat.WsFnExactKeys

theorem left_ne {ws gs : List ByteArray} (G : GO (mapOf false ws ws.length) gs) : ∃ s, s ∈ ws ∧ s ∉ gs := by
  obtain ⟨s, hs, e⟩ := (map_iff ws [65]).1 G.a
  exact ⟨s, hs, fun h => (G.mem s h).2.2.2.1 e⟩

theorem left_iff {ws gs : List ByteArray} (u : Wd) : (dropM (mapOf false ws ws.length) gs gs.length u ≠ none ∧ (fun _ : Wd => true) u = true) ↔ ∃ s, s ∈ ws ∧ keyOf s = u ∧ s ∉ gs := by
  unfold dropM
  rw [List.take_length]
  constructor
  · rintro ⟨h, _⟩
    split at h
    · exact absurd rfl h
    · rename_i hn
      obtain ⟨s, hs, e⟩ := (map_iff ws u).1 h
      exact ⟨s, hs, e, fun hg => hn (List.mem_map.2 ⟨s, hg, e⟩)⟩
  · rintro ⟨s, hs, e, hn⟩
    refine ⟨?_, rfl⟩
    rw [if_neg]
    · exact (map_iff ws u).2 ⟨s, hs, e⟩
    · intro hm
      obtain ⟨s2, h2, e2⟩ := List.mem_map.1 hm
      exact hn (by rw [keyOf_inj (e.trans e2.symm)]; exact h2)

set_option maxRecDepth 100000 in
set_option maxHeartbeats 3200000 in
theorem walk (a0 a1 : Int) (A2 A3 : Option Addr) (c2 c3 : Nat) (l2 l3 : List Int) (w : World) (h0 : 0 ≤ a0 ∧ a0 < 256) (h1 : 0 ≤ a1 ∧ a1 < 256)
    (hr2 : Kd.C (Kd.int .u8) w A2 l2.length l2) (hc2 : l2.length ≤ c2) (hl2 : ∀ x, x ∈ l2 → 0 ≤ x ∧ x < 256) (hr3 : Kd.C (Kd.int .u8) w A3 l3.length l3) (hc3 : l3.length ≤ c3) (hl3 : ∀ x, x ∈ l3 → 0 ≤ x ∧ x < 256) :
    Calls Tryz.prog 4 #[.int .u8 a0, .int .u8 a1, .slice A2 l2.length c2, .slice A3 l3.length c3] w (fun e w' => e = .returned (.bool true) ∧ Below w.heap.size w w') := by
  obtain ⟨ws, hws, hok⟩ := put_ok l2 hl2 (l2.length + 9) (by omega)
  have hmax := hok.max
  obtain ⟨gs, hgs, hgo⟩ := less_ok ws hmax l3 hl3 101 (by omega)
  obtain ⟨n, hn, hn1, hn2⟩ := node_ok a0 h0
  obtain ⟨m, hm, hm1, hm2⟩ := sparse_ok a1 h1
  have hgl := hgo.len
  have P1 := Lib.hid (spec_Put.calls (l2.length + 9) A2 c2 l2 ws w hr2 hc2 hws)
  have P2 : Hid (∀ w1, Tch w w1 (fun _ => False) → ∀ A0 c0, Kd.C Kd.string w1 A0 ws.length ws → ws.length ≤ c0 → _) := fun w1 (hT : Tch w w1 (fun _ => False)) A0 c0 (h : Kd.C Kd.string w1 A0 ws.length ws) (h' : ws.length ≤ c0) => spec_Less.calls 101 A0 c0 ws A3 c3 l3 gs w1 h h' (Kd.C_below hr3 (hT.below (B := w.heap.size) (fun _ _ h => h.elim) (Nat.le_refl _))) hc3 hgs
  have P3 := Lib.hid (fun w1 => spec_Node.calls a0 n w1 hn)
  have P4 := Lib.hid (fun w1 => spec_Sparse.calls a1 m w1 hm)
  have HO := Lib.hid (⟨hok, hgo, hn1, hm1, hm2⟩ : _ ∧ _ ∧ _ ∧ _ ∧ _)
  clear hr2 hr3 hws hgs hn hm hok hgo
  by_cases g2 : (l2.length : Int) > 2147483647
  · go_enter Tryz.func4, Tryz.ntmps4
    go_wp2_with fail
    all_goals
      go_ret
      exact ⟨rfl, Below.refl _ _⟩
  · by_cases g3 : (l3.length : Int) > 2147483647
    · go_enter Tryz.func4, Tryz.ntmps4
      go_wp2_with fail
      all_goals
        go_ret
        exact ⟨rfl, Below.refl _ _⟩
    · go_enter Tryz.func4, Tryz.ntmps4
      go_wp2_with fail
      refine P1.out.mono ?_
      rintro e w1 ⟨v, rfl, hR, hB1⟩
      have hrow := row_of hR
      have hws2 := HO.out.1.ws
      obtain ⟨g, c, rfl, hg, hgc, hcell⟩ := hrow.slice (by rintro rfl; have := hws2.two; simp at this)
      have hrow1 : Row w1 (.slice (some ⟨g, 0, none⟩) ws.length c) ws := row_of hR
      obtain ⟨A', c', e', hl', hC⟩ := Kd.R_reads hR
      injection e' with e1 e2 e3
      subst e1
      have HR1 := Lib.hid (⟨hC, hrow1, tch_below hB1⟩ : _ ∧ _ ∧ _)
      clear hR hrow hrow1 hcell hB1 hws2 hC hl' e2 e3
      go_wp2_with fail
      refine (P2.out w1 HR1.out.2.2 (some ⟨g, 0, none⟩) c HR1.out.1 hgc).mono ?_
      rintro e w2 ⟨v2, rfl, hR2, hB2⟩
      have hrow2 := row_of hR2
      obtain ⟨A2', c2', rfl, hl2', hC2⟩ := Kd.R_reads hR2
      have HR2 := Lib.hid (⟨hC2, hrow2, tch_below hB2⟩ : _ ∧ _ ∧ _)
      clear hR2 hrow2 hC2 hB2
      go_wp2_with fail
      refine (P3.out w2).mono ?_
      rintro e w3 ⟨rfl, hD3⟩
      have HB3 := Lib.hid (tch_below hD3.below)
      clear hD3
      go_wp2_with fail
      refine (P4.out w3).mono ?_
      rintro e w4 ⟨rfl, hD4⟩
      have HB4 := Lib.hid (tch_below hD4.below)
      clear hD4
      have hT24 : Hid (Tch w2 w4 (fun _ => False)) := HB3.out.trans HB4.out (fun _ _ h => h)
      have hT14 : Hid (Tch w1 w4 (fun _ => False)) := HR2.out.2.2.trans hT24.out (fun _ _ h => h)
      have hL := Lib.hid (keys_impl w4 n m HO.out.2.2.1 HO.out.2.2.2.1 (by have := HO.out.2.2.2.2; omega) _ ws HO.out.1.ws (Row.tchF HR1.out.2.1 hT14.out) (by omega) _ gs (Row.tchF HR2.out.2.1 hT24.out) (less_go HO.out.1 HO.out.2.1 false rfl) (by omega))
      go_wp2_with fail
      refine hL.out.mono ?_
      rintro e w5 ⟨v5, T5, rfl, hR5, hS5, hm5, hT5⟩
      have HT25 : Hid (Tch w2 w5 (fun _ => False)) := hT24.out.trans hT5 (fun _ _ h => h)
      have HT15 : Hid (Tch w1 w5 (fun _ => False)) := hT14.out.trans hT5 (fun _ _ h => h)
      have hS := Lib.hid (all_any sortC w5 (some ⟨g, 0, none⟩) c ws (Row.tchF HR1.out.2.1 HT15.out) (by omega) A2' c2' gs (Kd.C_below HR2.out.1 (HT25.out.below (B := w2.heap.size) (fun _ _ h => h.elim) (Nat.le_refl _))) hl2' (by omega) (left_ne (less_go HO.out.1 HO.out.2.1 false rfl)))
      obtain ⟨A5, c5, rfl, hl5c, hC5⟩ := Kd.R_reads hR5
      rw [List.length_map] at hC5 ⊢
      have H5 := Lib.hid (⟨hS5, hm5, hC5, hl5c⟩ : _ ∧ _ ∧ _ ∧ _)
      clear hR5 hS5 hm5 hT5 hC5 hl5c
      go_wp2_with fail
      refine hS.out.mono ?_
      rintro e w6 ⟨v6, T6, rfl, hR6, hS6, hm6, hl6, hT6⟩
      obtain rfl : T5 = T6 := Srt.ext H5.out.1 hS6 (fun u => by rw [H5.out.2.1, hm6]; exact ⟨fun h => (left_iff u).1 ⟨h.1, rfl⟩, fun h => ⟨((left_iff u).2 h).1, by first | trivial | rfl⟩⟩)
      obtain ⟨A6, c6, rfl, hl6c, hC6⟩ := Kd.R_reads hR6
      have hC56 := Kd.C_below H5.out.2.2.1 (hT6.below (B := w5.heap.size) (fun _ _ h => h.elim) (Nat.le_refl _))
      have hl5c := H5.out.2.2.2
      rw [List.length_map] at hl6c hl5c hC6 ⊢
      have hsm := PFnExactKeys.spec_Same.calls 300 A5 c5 (T5.map strB) A6 c6 (T5.map strB) true w6 (by rw [List.length_map]; exact hC56) (by rw [List.length_map]; exact hl5c) (by rw [List.length_map]; exact hC6) (by rw [List.length_map]; exact hl6c) (same_strs (T5.map strB) (by rw [List.length_map]; omega) 300 (by rw [List.length_map]; omega))
      rw [List.length_map] at hsm
      have hSame := Lib.hid hsm
      have HT6 : Hid (Tch w w6 (fun _ => False)) := (HR1.out.2.2.trans HT15.out (fun _ _ h => h)).trans hT6 (fun _ _ h => h)
      clear hR6 hS6 hm6 hl6 hT6 hl6c hC6 hC56 hl5c hsm
      go_wp2_with fail
      refine hSame.out.mono ?_
      rintro e w6' ⟨rfl, hD6⟩
      have HT6' : Hid (Tch w w6' (fun _ => False)) := HT6.out.trans (tch_below hD6.below) (fun _ _ h => h)
      clear hD6
      go_wp2_with fail
      refine (has_true _ w6'.heap.size (heap_new w6' _)).mono ?_
      rintro e w7 ⟨rfl, hT7⟩
      have HT7 : Hid (Tch w w7 (fun _ => False)) := (HT6'.out.alloc _).trans hT7 (fun _ _ h => h)
      clear hT7
      go_wp2_with fail
      go_ret
      exact ⟨rfl, HT7.out.below (fun _ _ h => h.elim) (Nat.le_refl _)⟩

end Go.Proofs.YtmdbnjepajifpaaGreat.KeysLaw
