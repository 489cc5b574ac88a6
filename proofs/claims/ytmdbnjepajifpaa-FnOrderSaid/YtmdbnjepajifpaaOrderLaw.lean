/- FnOrder: the order in which keys are put does not matter. No condition: for every input the law returns true. -/
import Derived.Test.YtmdbnjepajifpaaLessPFnOrder
import Derived.Test.YtmdbnjepajifpaaSameFnOrder
import Derived.Test.YtmdbnjepajifpaaTurnedFnOrder
import Derived.Test.YtmdbnjepajifpaaGGrow
set_option linter.unusedVariables false
set_option linter.unusedSimpArgs false
namespace Go.Proofs.Ytmdbnjepajifpaa.OrderLaw
open Go.RowKit Go.Proofs.YtmdbnjepajifpaaW.PrintWords Go.Proofs.YtmdbnjepajifpaaW.PrintLast Go.Proofs.YtmdbnjepajifpaaW.PrintMore Go.Proofs.Ytmdbnjepajifpaa.PFnOrder Go.Proofs.Ytmdbnjepajifpaa Go.Proofs.Ytmdbnjepajifpaa.WsFnOrder

theorem left_iff {ws gs : List ByteArray} (u : Wd) : (dropM (mapOf false ws ws.length) gs gs.length u ≠ none ∧ (fun _ : Wd => true) u = true) ↔ ∃ s, s ∈ ws ∧ keyOf s = u ∧ s ∉ gs := by
  unfold dropM
  rw [List.take_length]
  constructor
  · rintro ⟨h, _⟩
    split at h
    · exact absurd rfl h
    · rename_i hn
      obtain ⟨s, hs, e⟩ := (map_iff ws u).1 h
      exact ⟨s, hs, e, fun hg => hn (List.mem_map.2 ⟨s, hg, e⟩)⟩
  · rintro ⟨s, hs, e, hn⟩
    refine ⟨?_, rfl⟩
    rw [if_neg]
    · exact (map_iff ws u).2 ⟨s, hs, e⟩
    · intro hm
      obtain ⟨s2, h2, e2⟩ := List.mem_map.1 hm
      exact hn (by rw [keyOf_inj (e.trans e2.symm)]; exact h2)

theorem srt_nodup {T : List Wd} (h : Srt T) : (T.map strB).Nodup := by
  refine List.Pairwise.map (R := fun a b : Wd => a < b) strB (fun a b hab e => ?_) h
  have e2 : a = b := by rw [← key_strB a, ← key_strB b, e]
  rw [e2] at hab
  exact absurd hab (List.lt_irrefl _)

theorem map_rev {ws : List ByteArray} (u : Wd) (h : mapOf false ws ws.length u ≠ none) : mapOf false ws.reverse ws.reverse.length u ≠ none := by
  obtain ⟨s, hs, e⟩ := (map_iff ws u).1 h
  exact (map_iff ws.reverse u).2 ⟨s, List.mem_reverse.2 hs, e⟩

theorem go_rev {ws gs : List ByteArray} (G : GO (mapOf false ws ws.length) gs) : GO (mapOf false ws.reverse ws.reverse.length) gs.reverse :=
  ⟨List.pairwise_reverse.2 (G.nodup.imp (fun h => h.symm)), fun s hs => ⟨map_rev _ (G.mem s (List.mem_reverse.1 hs)).1, (G.mem s (List.mem_reverse.1 hs)).2⟩, map_rev _ G.a, map_rev _ G.z⟩

set_option maxRecDepth 100000 in
set_option maxHeartbeats 6400000 in
theorem walk (a0 a1 : Int) (A2 A3 : Option Addr) (c2 c3 : Nat) (l2 l3 : List Int) (w : World) (h0 : 0 ≤ a0 ∧ a0 < 256) (h1 : 0 ≤ a1 ∧ a1 < 256)
    (hr2 : Kd.C (Kd.int .u8) w A2 l2.length l2) (hc2 : l2.length ≤ c2) (hl2 : ∀ x, x ∈ l2 → 0 ≤ x ∧ x < 256) (hr3 : Kd.C (Kd.int .u8) w A3 l3.length l3) (hc3 : l3.length ≤ c3) (hl3 : ∀ x, x ∈ l3 → 0 ≤ x ∧ x < 256) :
    Calls Try.prog 9 #[.int .u8 a0, .int .u8 a1, .slice A2 l2.length c2, .slice A3 l3.length c3] w (fun e w' => e = .returned (.bool true) ∧ Below w.heap.size w w') := by
  obtain ⟨ws, hws, hok⟩ := put_ok l2 hl2 (l2.length + 9) (by omega)
  have hmax := hok.max
  obtain ⟨gs, hgs, hgo⟩ := less_ok ws hmax l3 hl3 101 (by omega)
  obtain ⟨n, hn, hn1, hn2⟩ := node_ok a0 h0
  obtain ⟨m, hm, hm1, hm2⟩ := sparse_ok a1 h1
  obtain ⟨n', hn', hn1', hn2'⟩ := node_ok a1 h1
  obtain ⟨m', hm', hm1', hm2'⟩ := sparse_ok a0 h0
  have hgl := hgo.len
  have P1 := Lib.hid (spec_Put.calls (l2.length + 9) A2 c2 l2 ws w hr2 hc2 hws)
  have P2 : Hid (∀ w1, Tch w w1 (fun _ => False) → ∀ A0 c0, Kd.C Kd.string w1 A0 ws.length ws → ws.length ≤ c0 → _) := fun w1 (hT : Tch w w1 (fun _ => False)) A0 c0 (h : Kd.C Kd.string w1 A0 ws.length ws) (h' : ws.length ≤ c0) => spec_Less.calls 101 A0 c0 ws A3 c3 l3 gs w1 h h' (Kd.C_below hr3 (hT.below (B := w.heap.size) (fun _ _ h => h.elim) (Nat.le_refl _))) hc3 hgs
  have P3 := Lib.hid (fun w1 => spec_Node.calls a0 n w1 hn)
  have P4 := Lib.hid (fun w1 => spec_Sparse.calls a1 m w1 hm)
  have P5 := Lib.hid (fun w1 => spec_Node.calls a1 n' w1 hn')
  have P6 := Lib.hid (fun w1 => spec_Sparse.calls a0 m' w1 hm')
  have P7 : Hid (∀ w1 A0 c0, Kd.C Kd.string w1 A0 ws.length ws → ws.length ≤ c0 → _) := fun w1 A0 c0 (h : Kd.C Kd.string w1 A0 ws.length ws) (h' : ws.length ≤ c0) => spec_Turned.calls 101 A0 c0 ws ws.reverse w1 h h' (turned_ok ws (by omega) 101 (by omega))
  have P8 : Hid (∀ w1 A0 c0, Kd.C Kd.string w1 A0 gs.length gs → gs.length ≤ c0 → _) := fun w1 A0 c0 (h : Kd.C Kd.string w1 A0 gs.length gs) (h' : gs.length ≤ c0) => spec_Turned.calls 101 A0 c0 gs gs.reverse w1 h h' (turned_ok gs (by omega) 101 (by omega))
  have HO := Lib.hid (⟨hok, hgo, hn1, hm1, hm2, hn1', hm1', hm2'⟩ : _ ∧ _ ∧ _ ∧ _ ∧ _ ∧ _ ∧ _ ∧ _)
  clear hr2 hr3 hws hgs hn hm hn' hm' hok hgo
  by_cases g2 : (l2.length : Int) > 2147483647
  · go_enter Try.func9, Try.ntmps9
    go_wp2_with fail
    all_goals
      go_ret
      exact ⟨rfl, Below.refl _ _⟩
  · by_cases g3 : (l3.length : Int) > 2147483647
    · go_enter Try.func9, Try.ntmps9
      go_wp2_with fail
      all_goals
        go_ret
        exact ⟨rfl, Below.refl _ _⟩
    · go_enter Try.func9, Try.ntmps9
      go_wp2_with fail
      refine P1.out.mono ?_
      rintro e w1 ⟨v, rfl, hR, hB1⟩
      have hrow := row_of hR
      have hws2 := HO.out.1.ws
      obtain ⟨g, c, rfl, hg, hgc, hcell⟩ := hrow.slice (by rintro rfl; have := hws2.two; simp at this)
      have hrow1 : Row w1 (.slice (some ⟨g, 0, none⟩) ws.length c) ws := row_of hR
      obtain ⟨A', c', e', hl', hC⟩ := Kd.R_reads hR
      injection e' with e1 e2 e3
      subst e1
      have HR1 := Lib.hid (⟨hC, hrow1, tch_below hB1⟩ : _ ∧ _ ∧ _)
      clear hR hrow hrow1 hcell hB1 hws2 hC hl' e2 e3
      go_wp2_with fail
      refine (P2.out w1 HR1.out.2.2 (some ⟨g, 0, none⟩) c HR1.out.1 hgc).mono ?_
      rintro e w2 ⟨v2, rfl, hR2, hB2⟩
      have hrow2 := row_of hR2
      obtain ⟨A2', c2', rfl, hl2', hC2⟩ := Kd.R_reads hR2
      have HR2 := Lib.hid (⟨hC2, hrow2, tch_below hB2⟩ : _ ∧ _ ∧ _)
      clear hR2 hrow2 hC2 hB2
      go_wp2_with fail
      refine (P3.out w2).mono ?_
      rintro e w3 ⟨rfl, hD3⟩
      have HB3 := Lib.hid (tch_below hD3.below)
      clear hD3
      go_wp2_with fail
      refine (P4.out w3).mono ?_
      rintro e w4 ⟨rfl, hD4⟩
      have HB4 := Lib.hid (tch_below hD4.below)
      clear hD4
      have hT24 : Hid (Tch w2 w4 (fun _ => False)) := HB3.out.trans HB4.out (fun _ _ h => h)
      have hT14 : Hid (Tch w1 w4 (fun _ => False)) := HR2.out.2.2.trans hT24.out (fun _ _ h => h)
      have hgo1 := Lib.hid (less_go HO.out.1 HO.out.2.1 false rfl)
      have hwg : Hid (WG ws) := HO.out.1.ws.len
      have hne : Hid (ws ≠ []) := by rintro rfl; have := HO.out.1.ws.two; simp at this
      have hL := Lib.hid (keys_y w4 n m HO.out.2.2.1 HO.out.2.2.2.1 (by have := HO.out.2.2.2.2.1; omega) _ ws hne.out hwg.out (Row.tchF HR1.out.2.1 hT14.out) (by omega) _ gs (Row.tchF HR2.out.2.1 hT24.out) hgo1.out (by omega))
      go_wp2_with fail
      refine hL.out.mono ?_
      rintro e w5 ⟨v5, T5, rfl, hR5, hS5, hm5, hT5⟩
      have HT25 : Hid (Tch w2 w5 (fun _ => False)) := hT24.out.trans hT5 (fun _ _ h => h)
      have HT15 : Hid (Tch w1 w5 (fun _ => False)) := hT14.out.trans hT5 (fun _ _ h => h)
      obtain ⟨A5, c5, rfl, hl5c, hC5⟩ := Kd.R_reads hR5
      rw [List.length_map] at hC5 ⊢
      have hl5 : T5.length ≤ 42 := by
        have := nodup_le (T5.map strB) ws (srt_nodup hS5) (fun x hx => by
          obtain ⟨u, hu, e⟩ := List.mem_map.1 hx
          obtain ⟨s, hs, e2, _⟩ := (left_iff u).1 ((hm5 u).1 hu)
          rw [← e, ← e2, strB_key]; exact hs)
        rw [List.length_map] at this
        omega
      have H5 := Lib.hid (⟨hS5, hm5, hC5, hl5c⟩ : _ ∧ _ ∧ _ ∧ _)
      clear hR5 hS5 hm5 hT5 hC5 hl5c
      go_wp2_with fail
      refine (P5.out w5).mono ?_
      rintro e wa ⟨rfl, hDa⟩
      have HBa := Lib.hid (tch_below hDa.below)
      clear hDa
      go_wp2_with fail
      refine (P6.out wa).mono ?_
      rintro e wb ⟨rfl, hDb⟩
      have HBb : Hid (Tch w5 wb (fun _ => False)) := HBa.out.trans (tch_below hDb.below) (fun _ _ h => h)
      clear hDb
      have HT1b : Hid (Tch w1 wb (fun _ => False)) := HT15.out.trans HBb.out (fun _ _ h => h)
      have HT2b : Hid (Tch w2 wb (fun _ => False)) := HT25.out.trans HBb.out (fun _ _ h => h)
      go_wp2_with fail
      refine (P7.out wb (some ⟨g, 0, none⟩) c (Kd.C_below HR1.out.1 (HT1b.out.below (B := w1.heap.size) (fun _ _ h => h.elim) (Nat.le_refl _))) hgc).mono ?_
      rintro e wc ⟨vc, rfl, hRc, hBc⟩
      have hrowc := row_of hRc
      have HTbc := Lib.hid (tch_below hBc)
      obtain ⟨Ac, cc, rfl, hlc, hCc⟩ := Kd.R_reads hRc
      rw [List.length_reverse] at hrowc
      have HRC := Lib.hid hrowc
      clear hRc hrowc hBc hCc
      have HT2c : Hid (Tch w2 wc (fun _ => False)) := HT2b.out.trans HTbc.out (fun _ _ h => h)
      go_wp2_with fail
      refine (P8.out wc A2' c2' (Kd.C_below HR2.out.1 (HT2c.out.below (B := w2.heap.size) (fun _ _ h => h.elim) (Nat.le_refl _))) hl2').mono ?_
      rintro e wd ⟨vd, rfl, hRd, hBd⟩
      have hrowd := row_of hRd
      have HTcd := Lib.hid (tch_below hBd)
      obtain ⟨Ad, cd, rfl, hld, hCd⟩ := Kd.R_reads hRd
      rw [List.length_reverse] at hrowd
      have HRD := Lib.hid hrowd
      clear hRd hrowd hBd hCd
      have HT5d : Hid (Tch w5 wd (fun _ => False)) := (HBb.out.trans HTbc.out (fun _ _ h => h)).trans HTcd.out (fun _ _ h => h)
      have hL2 := Lib.hid (keys_y wd n' m' HO.out.2.2.2.2.2.1 HO.out.2.2.2.2.2.2.1 (by have := HO.out.2.2.2.2.2.2.2; omega) _ ws.reverse (fun e => hne.out (List.reverse_eq_nil_iff.1 e)) (fun s hs => hwg.out s (List.mem_reverse.1 hs)) (Row.tchF HRC.out HTcd.out) (by rw [List.length_reverse]; omega) _ gs.reverse HRD.out (go_rev hgo1.out) (by rw [List.length_reverse]; omega))
      go_wp2_with fail
      refine hL2.out.mono ?_
      rintro e w6 ⟨v6, T6, rfl, hR6, hS6, hm6, hT6⟩
      obtain rfl : T5 = T6 := Srt.ext H5.out.1 hS6 (fun u => by
        have e1 : u ∈ T5 ↔ ∃ s, s ∈ ws ∧ keyOf s = u ∧ s ∉ gs := by
          rw [H5.out.2.1]
          exact ⟨fun h => (left_iff u).1 ⟨h.1, rfl⟩, fun h => ⟨((left_iff u).2 h).1, by first | trivial | rfl⟩⟩
        have e2 : u ∈ T6 ↔ ∃ s, s ∈ ws.reverse ∧ keyOf s = u ∧ s ∉ gs.reverse := by
          rw [hm6]
          exact ⟨fun h => (left_iff u).1 ⟨h.1, rfl⟩, fun h => ⟨((left_iff u).2 h).1, by first | trivial | rfl⟩⟩
        rw [e1, e2]
        exact ⟨fun ⟨s, h1, h2, h3⟩ => ⟨s, List.mem_reverse.2 h1, h2, fun h => h3 (List.mem_reverse.1 h)⟩, fun ⟨s, h1, h2, h3⟩ => ⟨s, List.mem_reverse.1 h1, h2, fun h => h3 (List.mem_reverse.2 h)⟩⟩)
      obtain ⟨A6, c6, rfl, hl6c, hC6⟩ := Kd.R_reads hR6
      have hT56 : Tch w5 w6 (fun _ => False) := HT5d.out.trans hT6 (fun _ _ h => h)
      have hC56 := Kd.C_below H5.out.2.2.1 (hT56.below (B := w5.heap.size) (fun _ _ h => h.elim) (Nat.le_refl _))
      have hl5c := H5.out.2.2.2
      rw [List.length_map] at hl6c hl5c hC6 ⊢
      have hsm := PFnOrder.spec_Same.calls 300 A5 c5 (T5.map strB) A6 c6 (T5.map strB) true w6 (by rw [List.length_map]; exact hC56) (by rw [List.length_map]; exact hl5c) (by rw [List.length_map]; exact hC6) (by rw [List.length_map]; exact hl6c) (same_strs (T5.map strB) (by rw [List.length_map]; omega) 300 (by rw [List.length_map]; omega))
      rw [List.length_map] at hsm
      have hSame := Lib.hid hsm
      have HT6 : Hid (Tch w w6 (fun _ => False)) := (HR1.out.2.2.trans HT15.out (fun _ _ h => h)).trans hT56 (fun _ _ h => h)
      clear hR6 hS6 hm6 hT6 hl6c hC6 hC56 hl5c hsm hT56
      go_wp2_with fail
      refine hSame.out.mono ?_
      rintro e w6' ⟨rfl, hD6⟩
      have HT6' : Hid (Tch w w6' (fun _ => False)) := HT6.out.trans (tch_below hD6.below) (fun _ _ h => h)
      clear hD6
      go_wp2_with fail
      refine (has_true _ w6'.heap.size (heap_new w6' _)).mono ?_
      rintro e w7 ⟨rfl, hT7⟩
      have HT7 : Hid (Tch w w7 (fun _ => False)) := (HT6'.out.alloc _).trans hT7 (fun _ _ h => h)
      clear hT7
      go_wp2_with fail
      go_ret
      exact ⟨rfl, HT7.out.below (fun _ _ h => h.elim) (Nat.le_refl _)⟩

end Go.Proofs.Ytmdbnjepajifpaa.OrderLaw
