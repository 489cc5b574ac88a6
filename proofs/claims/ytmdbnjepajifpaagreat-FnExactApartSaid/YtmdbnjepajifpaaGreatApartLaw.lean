/- FnExactApart: what happens to a trie does not happen to its copy. No condition: for every input the law returns true. -/
import Derived.Test.YtmdbnjepajifpaaGreatLessPFnExactKeys
import Derived.Test.YtmdbnjepajifpaaGreatSortLFnExactKeys
import Derived.Test.YtmdbnjepajifpaaGreatSameFnExactKeys
import Derived.Test.YtmdbnjepajifpaaGreatApart
set_option linter.unusedVariables false
set_option linter.unusedSimpArgs false
namespace Go.Proofs.YtmdbnjepajifpaaGreat.ApartLaw
open Go.RowKit Go.Proofs.YtmdbnjepajifpaaGreatW.PrintWords Go.Proofs.YtmdbnjepajifpaaGreatW.PrintLast Go.Proofs.YtmdbnjepajifpaaGreatW.PrintMore Go.Proofs.YtmdbnjepajifpaaGreat.PFnExactKeys Go.Proofs.YtmdbnjepajifpaaGreat Go.Proofs.YtmdbnjepajifpaaGreat.WsFnExactKeys

theorem words_ok (l : List Int) (hl : ∀ x, x ∈ l → 0 ≤ x ∧ x < 256) (k : Nat) (hk : l.length + 8 < k) : ∃ ms, spec_Words.f k l = some ms ∧ ms.length ≤ 40 ∧ ∀ s, s ∈ ms → WordOk s := by
  obtain ⟨r, h1, h2, h3⟩ := words_l0 l.length k l [] hl (Nat.le_refl _) hk (by simp) (by simp)
  exact ⟨r, by unfold spec_Words.f; exact h1, h2, h3⟩

theorem left_ne {ws gs : List ByteArray} (ms : List ByteArray) (G : GO (mapOf false ws ws.length) gs) : ∃ s, s ∈ ws ++ ms ∧ s ∉ gs := by
  obtain ⟨s, hs, e⟩ := (map_iff ws [65]).1 G.a
  exact ⟨s, List.mem_append.2 (.inl hs), fun h => (G.mem s h).2.2.2.1 e⟩

theorem apart_iff {ws ms gs : List ByteArray} (u : Wd) : dropM (moreM (mapOf false ws ws.length) ms ms.length) gs gs.length u ≠ none ↔ ∃ s, s ∈ ws ++ ms ∧ keyOf s = u ∧ s ∉ gs := by
  have hk : moreM (mapOf false ws ws.length) ms ms.length u ≠ none ↔ ∃ s, s ∈ ws ++ ms ∧ keyOf s = u := by
    rw [moreM_iff _ ms ms.length (Nat.le_refl _), map_iff, List.take_length]
    constructor
    · rintro (⟨s, h, e⟩ | ⟨s, h, e⟩)
      · exact ⟨s, List.mem_append.2 (.inl h), e⟩
      · exact ⟨s, List.mem_append.2 (.inr h), e⟩
    · rintro ⟨s, h, e⟩
      rcases List.mem_append.1 h with h | h
      · exact .inl ⟨s, h, e⟩
      · exact .inr ⟨s, h, e⟩
  unfold dropM
  rw [List.take_length]
  constructor
  · intro h
    split at h
    · exact absurd rfl h
    · rename_i hn
      obtain ⟨s, hs, e⟩ := hk.1 h
      exact ⟨s, hs, e, fun hg => hn (List.mem_map.2 ⟨s, hg, e⟩)⟩
  · rintro ⟨s, hs, e, hn⟩
    rw [if_neg]
    · exact hk.2 ⟨s, hs, e⟩
    · intro hm
      obtain ⟨s2, h2, e2⟩ := List.mem_map.1 hm
      exact hn (by rw [keyOf_inj (e.trans e2.symm)]; exact h2)

set_option maxRecDepth 100000 in
set_option maxHeartbeats 6400000 in
theorem walk (a0 a1 : Int) (A2 A3 A4 : Option Addr) (c2 c3 c4 : Nat) (l2 l3 l4 : List Int) (w : World) (h0 : 0 ≤ a0 ∧ a0 < 256) (h1 : 0 ≤ a1 ∧ a1 < 256)
    (hr2 : Kd.C (Kd.int .u8) w A2 l2.length l2) (hc2 : l2.length ≤ c2) (hl2 : ∀ x, x ∈ l2 → 0 ≤ x ∧ x < 256) (hr3 : Kd.C (Kd.int .u8) w A3 l3.length l3) (hc3 : l3.length ≤ c3) (hl3 : ∀ x, x ∈ l3 → 0 ≤ x ∧ x < 256)
    (hr4 : Kd.C (Kd.int .u8) w A4 l4.length l4) (hc4 : l4.length ≤ c4) (hl4 : ∀ x, x ∈ l4 → 0 ≤ x ∧ x < 256) :
    Calls Tryz.prog 5 #[.int .u8 a0, .int .u8 a1, .slice A2 l2.length c2, .slice A3 l3.length c3, .slice A4 l4.length c4] w (fun e w' => e = .returned (.bool true) ∧ Below w.heap.size w w') := by
  obtain ⟨ws, hws, hok⟩ := put_ok l2 hl2 (l2.length + 9) (by omega)
  have hmax := hok.max
  obtain ⟨ms, hms, hml, hmw⟩ := words_ok l3 hl3 (l3.length + 9) (by omega)
  obtain ⟨gs, hgs, hgo⟩ := less_ok ws hmax l4 hl4 101 (by omega)
  obtain ⟨n, hn, hn1, hn2⟩ := node_ok a0 h0
  obtain ⟨m, hm, hm1, hm2⟩ := sparse_ok a1 h1
  have hgl := hgo.len
  have P1 := Lib.hid (spec_Put.calls (l2.length + 9) A2 c2 l2 ws w hr2 hc2 hws)
  have PW : Hid (∀ w1, Tch w w1 (fun _ => False) → _) := fun w1 (hT : Tch w w1 (fun _ => False)) => spec_Words.calls (l3.length + 9) (fun k_ => k_ < w1.heap.size) A3 c3 l3 ms w1 (Kd.V_mk hc3 (Kd.C_F (Kd.heap_int .u8) (Kd.C_below hr3 (hT.below (B := w.heap.size) (fun _ _ h => h.elim) (Nat.le_refl _))))) hms
  have P2 : Hid (∀ w1, Tch w w1 (fun _ => False) → ∀ A0 c0, Kd.C Kd.string w1 A0 ws.length ws → ws.length ≤ c0 → _) := fun w1 (hT : Tch w w1 (fun _ => False)) A0 c0 (h : Kd.C Kd.string w1 A0 ws.length ws) (h' : ws.length ≤ c0) => spec_Less.calls 101 A0 c0 ws A4 c4 l4 gs w1 h h' (Kd.C_below hr4 (hT.below (B := w.heap.size) (fun _ _ h => h.elim) (Nat.le_refl _))) hc4 hgs
  have P3 := Lib.hid (fun w1 => spec_Node.calls a0 n w1 hn)
  have P4 := Lib.hid (fun w1 => spec_Sparse.calls a1 m w1 hm)
  have HO := Lib.hid (⟨hok, hgo, hn1, hm1, hm2, hmw⟩ : _ ∧ _ ∧ _ ∧ _ ∧ _ ∧ _)
  clear hr2 hr3 hr4 hws hgs hn hm hok hgo hms hmw
  by_cases g2 : (l2.length : Int) > 2147483647
  · go_enter Tryz.func5, Tryz.ntmps5
    go_wp2_with fail
    all_goals
      go_ret
      exact ⟨rfl, Below.refl _ _⟩
  · by_cases g3 : (l3.length : Int) > 2147483647
    · go_enter Tryz.func5, Tryz.ntmps5
      go_wp2_with fail
      all_goals
        go_ret
        exact ⟨rfl, Below.refl _ _⟩
    · by_cases g4 : (l4.length : Int) > 2147483647
      · go_enter Tryz.func5, Tryz.ntmps5
        go_wp2_with fail
        all_goals
          go_ret
          exact ⟨rfl, Below.refl _ _⟩
      · go_enter Tryz.func5, Tryz.ntmps5
        go_wp2_with fail
        refine P1.out.mono ?_
        rintro e w1 ⟨v, rfl, hR, hB1⟩
        have hrow := row_of hR
        have hws2 := HO.out.1.ws
        obtain ⟨g, c, rfl, hg, hgc, hcell⟩ := hrow.slice (by rintro rfl; have := hws2.two; simp at this)
        have hrow1 : Row w1 (.slice (some ⟨g, 0, none⟩) ws.length c) ws := row_of hR
        obtain ⟨A', c', e', hl', hC⟩ := Kd.R_reads hR
        injection e' with e1 e2 e3
        subst e1
        have HR1 := Lib.hid (⟨hC, hrow1, tch_below hB1⟩ : _ ∧ _ ∧ _)
        clear hR hrow hrow1 hcell hB1 hws2 hC hl' e2 e3
        go_wp2_with fail
        refine (PW.out w1 HR1.out.2.2).mono ?_
        rintro e wm ⟨vm, rfl, hRm, hBm⟩
        have hrowm := row_of hRm
        obtain ⟨Am, cm, rfl, hlm, hCm⟩ := Kd.R_reads hRm
        have HRM := Lib.hid (⟨hCm, hrowm, tch_below hBm⟩ : _ ∧ _ ∧ _)
        clear hRm hrowm hCm hBm
        have hT0m : Hid (Tch w wm (fun _ => False)) := HR1.out.2.2.trans HRM.out.2.2 (fun _ _ h => h)
        go_wp2_with fail
        refine (P2.out wm hT0m.out (some ⟨g, 0, none⟩) c (Kd.C_below HR1.out.1 (HRM.out.2.2.below (B := w1.heap.size) (fun _ _ h => h.elim) (Nat.le_refl _))) hgc).mono ?_
        rintro e w2 ⟨v2, rfl, hR2, hB2⟩
        have hrow2 := row_of hR2
        obtain ⟨A2', c2', rfl, hl2', hC2⟩ := Kd.R_reads hR2
        have HR2 := Lib.hid (⟨hC2, hrow2, tch_below hB2⟩ : _ ∧ _ ∧ _)
        clear hR2 hrow2 hC2 hB2
        go_wp2_with fail
        refine (P3.out w2).mono ?_
        rintro e w3 ⟨rfl, hD3⟩
        have HB3 := Lib.hid (tch_below hD3.below)
        clear hD3
        go_wp2_with fail
        refine (P4.out w3).mono ?_
        rintro e w4 ⟨rfl, hD4⟩
        have HB4 := Lib.hid (tch_below hD4.below)
        clear hD4
        have hT24 : Hid (Tch w2 w4 (fun _ => False)) := HB3.out.trans HB4.out (fun _ _ h => h)
        have hTm4 : Hid (Tch wm w4 (fun _ => False)) := HR2.out.2.2.trans hT24.out (fun _ _ h => h)
        have hT14 : Hid (Tch w1 w4 (fun _ => False)) := HRM.out.2.2.trans hTm4.out (fun _ _ h => h)
        have hgo1 := Lib.hid (less_go HO.out.1 HO.out.2.1 false rfl)
        have hL := Lib.hid (apart_impl w4 n m HO.out.2.2.1 HO.out.2.2.2.1 (by have := HO.out.2.2.2.2.1; omega) _ ws HO.out.1.ws (Row.tchF HR1.out.2.1 hT14.out) _ ms (Row.tchF HRM.out.2.1 hTm4.out) (fun s hs => by have := HO.out.2.2.2.2.2 s hs; exact ⟨by have := this.1; omega, by have := this.2.1; omega⟩) (by omega) _ gs (Row.tchF HR2.out.2.1 hT24.out) hgo1.out (by omega))
        go_wp2_with fail
        refine hL.out.mono ?_
        rintro e w5 ⟨v5, v6, T5, T6, rfl, hR5, hS5, hm5, hR6, hS6, hm6, hT5⟩
        have HT25 : Hid (Tch w2 w5 (fun _ => False)) := hT24.out.trans hT5 (fun _ _ h => h)
        have HTm5 : Hid (Tch wm w5 (fun _ => False)) := hTm4.out.trans hT5 (fun _ _ h => h)
        have HT15 : Hid (Tch w1 w5 (fun _ => False)) := hT14.out.trans hT5 (fun _ _ h => h)
        obtain ⟨A5, c5, rfl, hl5c, hC5⟩ := Kd.R_reads hR5
        obtain ⟨A6, c6, rfl, hl6c, hC6⟩ := Kd.R_reads hR6
        rw [List.length_map] at hC5 hC6 ⊢
        rw [List.length_map]
        have H5 := Lib.hid (⟨hS5, hm5, hC5, hl5c⟩ : _ ∧ _ ∧ _ ∧ _)
        have H6 := Lib.hid (⟨hS6, hm6, hC6, hl6c⟩ : _ ∧ _ ∧ _ ∧ _)
        have HCW : Hid (∀ W, Tch w5 W (fun _ => False) → Kd.C Kd.string W (some ⟨g, 0, none⟩) ws.length ws) := fun W (hT : Tch w5 W (fun _ => False)) => Kd.C_below HR1.out.1 ((HT15.out.trans hT (fun _ _ h => h)).below (B := w1.heap.size) (fun _ _ h => h.elim) (Nat.le_refl _))
        have HCM : Hid (∀ W, Tch w5 W (fun _ => False) → Kd.C Kd.string W Am ms.length ms) := fun W (hT : Tch w5 W (fun _ => False)) => Kd.C_below HRM.out.1 ((HTm5.out.trans hT (fun _ _ h => h)).below (B := wm.heap.size) (fun _ _ h => h.elim) (Nat.le_refl _))
        clear hR5 hS5 hm5 hT5 hC5 hl5c hR6 hS6 hm6 hC6 hl6c
        go_wp2_with (first
          | ((with_reducible refine gate_dst (N := 48) rfl ?_); refine Kd.R_lit Kd.string (w0 := w5) w5.heap.size 9 ?hg (N := 48) ?hd (xs := ([] : List ByteArray)) (inner := []) (ok := fun _ => True) (okp := fun _ => True) ?hr ?hp (fun _ hk => hk) trivial (Below.refl _ _) (Nat.le_refl _) (by simp) ?_; (case hd => rfl); (case hg => rfl); (case hr => first | (go_simp; done) | (go_simp; rfl)); (case hp => exact (Reps.none _ _)); intro v48 wL r1 r2 r3 r4; have HL := Lib.hid (⟨r1, r2⟩ : _ ∧ _); clear r1 r2 r3 r4)
          | ((with_reducible refine gate_builtin (b := .append) (xs := #[.tmp 48, .tmp 49]) rfl ?_); at_builtin; go_loud (refine Kd.R_append_row Value.string ByteArray.empty (w0 := w5) w5.heap.size rfl (.tmp 48) (.tmp 49) 23 9 (.string ByteArray.empty) 16 rfl Tryz.underlying23 infoStr rfl (by omega) v48 [] ws (some ⟨g, 0, none⟩) ws.length c (fun _ => True) rfl rfl (fun _ _ => trivial) HL.out.1 (HCW.out _ (tch_below HL.out.2)) HL.out.2 HL.out.2.size (by simp; omega) ?_); intro v50 wA r1 r2 r3 r4; have HA1 := Lib.hid (⟨r1, r2⟩ : _ ∧ _); clear r1 r2 r3 r4)
          | ((with_reducible refine gate_builtin (b := .append) (xs := #[.tmp 50, .tmp 51]) rfl ?_); at_builtin; go_loud (refine Kd.R_append_row Value.string ByteArray.empty (w0 := w5) w5.heap.size rfl (.tmp 50) (.tmp 51) 23 9 (.string ByteArray.empty) 16 rfl Tryz.underlying23 infoStr rfl (by omega) v50 ([] ++ ws) ms Am ms.length cm (fun _ => True) rfl rfl (fun _ _ => trivial) HA1.out.1 (HCM.out _ (tch_below HA1.out.2)) HA1.out.2 HA1.out.2.size (by simp; omega) ?_); intro v52 wB r1 r2 r3 r4; rw [List.nil_append] at r1; have hrowb := row_of r1; obtain ⟨A52, c52, e52⟩ := Kd.R_slice r1; subst e52; have HB1 := Lib.hid (⟨hrowb, tch_below r2⟩ : _ ∧ _); clear r1 r2 r3 r4 hrowb))
        have hgsC := Lib.hid (Kd.C_below HR2.out.1 ((HT25.out.trans HB1.out.2 (fun _ _ h => h)).below (B := w2.heap.size) (fun _ _ h => h.elim) (Nat.le_refl _)))
        have hall := all_any sortC wB A52 c52 (ws ++ ms) HB1.out.1 (by rw [List.length_append]; omega) A2' c2' gs hgsC.out hl2' (by omega) (left_ne ms hgo1.out)
        rw [List.length_append] at hall
        refine hall.mono ?_
        clear hall
        rintro e w7 ⟨v7, T7, rfl, hR7, hS7, hm7, hl7, hT7⟩
        obtain rfl : T5 = T7 := Srt.ext H5.out.1 hS7 (fun u => by rw [H5.out.2.1, hm7, apart_iff])
        obtain ⟨A7, c7, rfl, hl7c, hC7⟩ := Kd.R_reads hR7
        have hT57 : Tch w5 w7 (fun _ => False) := HB1.out.2.trans hT7 (fun _ _ h => h)
        have hC57 := Kd.C_below H5.out.2.2.1 (hT57.below (B := w5.heap.size) (fun _ _ h => h.elim) (Nat.le_refl _))
        have hl5c := H5.out.2.2.2
        rw [List.length_append] at hl7
        rw [List.length_map] at hl7c hl5c hC7 ⊢
        have hsm := PFnExactKeys.spec_Same.calls 300 A5 c5 (T5.map strB) A7 c7 (T5.map strB) true w7 (by rw [List.length_map]; exact hC57) (by rw [List.length_map]; exact hl5c) (by rw [List.length_map]; exact hC7) (by rw [List.length_map]; exact hl7c) (same_strs (T5.map strB) (by rw [List.length_map]; omega) 300 (by rw [List.length_map]; omega))
        rw [List.length_map] at hsm
        have hSame := Lib.hid hsm
        have HT57 := Lib.hid hT57
        clear hR7 hS7 hm7 hl7 hT7 hl7c hC7 hC57 hl5c hsm hT57
        go_wp2_with fail
        refine hSame.out.mono ?_
        rintro e w8 ⟨rfl, hD8⟩
        have HT58 : Hid (Tch w5 w8 (fun _ => False)) := HT57.out.trans (tch_below hD8.below) (fun _ _ h => h)
        clear hD8
        have hrow8 := Lib.hid (Row.tchF HR1.out.2.1 (HT15.out.trans HT58.out (fun _ _ h => h)))
        go_wp2_with fail
        refine (all_any sortC w8 (some ⟨g, 0, none⟩) c ws hrow8.out (by omega) none 0 [] (Kd.C_nil _ _) (Nat.zero_le _) (by simp) (by obtain ⟨s, hs, _⟩ := (map_iff ws [65]).1 hgo1.out.a; exact ⟨s, hs, by simp⟩)).mono ?_
        rintro e w9 ⟨v9, T9, rfl, hR9, hS9, hm9, hl9, hT9⟩
        obtain rfl : T6 = T9 := Srt.ext H6.out.1 hS9 (fun u => by rw [H6.out.2.1, hm9, map_iff]; exact ⟨fun ⟨s, h1, h2⟩ => ⟨s, h1, h2, by simp⟩, fun ⟨s, h1, h2, _⟩ => ⟨s, h1, h2⟩⟩)
        obtain ⟨A9, c9, rfl, hl9c, hC9⟩ := Kd.R_reads hR9
        have hT59 : Tch w5 w9 (fun _ => False) := HT58.out.trans hT9 (fun _ _ h => h)
        have hC69 := Kd.C_below H6.out.2.2.1 (hT59.below (B := w5.heap.size) (fun _ _ h => h.elim) (Nat.le_refl _))
        have hl6c := H6.out.2.2.2
        rw [List.length_map] at hl9c hl6c hC9 ⊢
        have hsm := PFnExactKeys.spec_Same.calls 300 A6 c6 (T6.map strB) A9 c9 (T6.map strB) true w9 (by rw [List.length_map]; exact hC69) (by rw [List.length_map]; exact hl6c) (by rw [List.length_map]; exact hC9) (by rw [List.length_map]; exact hl9c) (same_strs (T6.map strB) (by rw [List.length_map]; omega) 300 (by rw [List.length_map]; omega))
        rw [List.length_map] at hsm
        have hSame2 := Lib.hid hsm
        have HT09 : Hid (Tch w w9 (fun _ => False)) := (HR1.out.2.2.trans HT15.out (fun _ _ h => h)).trans hT59 (fun _ _ h => h)
        clear hR9 hS9 hm9 hl9 hT9 hl9c hC9 hC69 hl6c hsm hT59
        go_wp2_with fail
        refine hSame2.out.mono ?_
        rintro e w6' ⟨rfl, hD6⟩
        have HT6' : Hid (Tch w w6' (fun _ => False)) := HT09.out.trans (tch_below hD6.below) (fun _ _ h => h)
        clear hD6
        go_wp2_with fail
        refine (has_true _ w6'.heap.size (heap_new w6' _)).mono ?_
        rintro e w10 ⟨rfl, hT7⟩
        have HT7 : Hid (Tch w w10 (fun _ => False)) := (HT6'.out.alloc _).trans hT7 (fun _ _ h => h)
        clear hT7
        go_wp2_with fail
        go_ret
        exact ⟨rfl, HT7.out.below (fun _ _ h => h.elim) (Nat.le_refl _)⟩

end Go.Proofs.YtmdbnjepajifpaaGreat.ApartLaw
