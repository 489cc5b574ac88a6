/- FnExactAdded: a word is inserted if it was not there. No condition: for every input the law returns true. -/
import Derived.Test.YtmdbnjepajifpaaWordsFnExactAdded
import Derived.Test.YtmdbnjepajifpaaC4
import Derived.Test.YtmdbnjepajifpaaAdded
namespace Go.Proofs.Ytmdbnjepajifpaa.AddedLaw
open Go.RowKit Go.Proofs.YtmdbnjepajifpaaW.PrintWords Go.Proofs.YtmdbnjepajifpaaW.PrintLast Go.Proofs.YtmdbnjepajifpaaW.PrintMore Go.Proofs.Ytmdbnjepajifpaa.PFnExactAdded Go.Proofs.Ytmdbnjepajifpaa Go.Proofs.Ytmdbnjepajifpaa.WsFnExactAdded

theorem rdOf_at {α : Type} (z : α) (l : List α) (i : Nat) (h : i < l.length) : rdOf z l (i : Int) = l[i] := by
  unfold rdOf
  rw [Int.toNat_natCast, List.getD_eq_getElem?_getD, List.getElem?_eq_getElem h]
  rfl

theorem index_l0 (l : List ByteArray) (s : ByteArray) (hmax : l.length ≤ 1000000) : ∀ (d k i : Nat), i + d = l.length → d < k →
    ∃ r, slices_Index_string_string.l0 k l s (l.length : Int) (i : Int) = some r ∧ (r ≥ 0 ↔ s ∈ l.drop i) := by
  intro d
  induction d with
  | zero =>
    intro k i hi hk
    obtain ⟨k, rfl⟩ : ∃ m, k = m + 1 := ⟨k - 1, by omega⟩
    refine ⟨-1, ?_, ?_⟩
    · simp only [slices_Index_string_string.l0]; rw [if_neg (by omega)]
    · rw [List.drop_eq_nil_of_le (by omega)]; simp
  | succ d ih =>
    intro k i hi hk
    obtain ⟨k, rfl⟩ : ∃ m, k = m + 1 := ⟨k - 1, by omega⟩
    have hlt : i < l.length := by omega
    simp only [slices_Index_string_string.l0]
    rw [if_pos (by omega), if_pos (by omega), if_pos (by omega), rdOf_at _ l i hlt]
    by_cases e : keyOf s = keyOf l[i]
    · rw [if_pos ((key_eq _ _).2 e)]
      refine ⟨i, rfl, ?_⟩
      rw [keyOf_inj e, List.drop_eq_getElem_cons hlt]
      exact ⟨fun _ => List.mem_cons_self, fun _ => by omega⟩
    · rw [if_neg (fun h => e ((key_eq _ _).1 h))]
      have : wrap64 ((i : Int) + 1) = ((i + 1 : Nat) : Int) := by unfold wrap64; omega
      rw [this]
      obtain ⟨r, h1, h2⟩ := ih k (i + 1) (by omega) (by omega)
      refine ⟨r, h1, ?_⟩
      rw [h2, List.drop_eq_getElem_cons hlt, List.mem_cons]
      constructor
      · exact .inr
      · rintro (h | h)
        · exact absurd (by rw [h]) e
        · exact h

theorem contains_ok (l : List ByteArray) (s : ByteArray) (hmax : l.length ≤ 1000000) (k : Nat) (hk : l.length < k) : ∃ b, slices_Contains_string_string.f k l s = some b ∧ (b = true ↔ s ∈ l) := by
  obtain ⟨r, h1, h2⟩ := index_l0 l s hmax l.length k 0 (by omega) hk
  unfold slices_Contains_string_string.f slices_Index_string_string.f
  have : ((0 : Nat) : Int) = 0 := rfl
  rw [this] at h1
  rw [h1]
  rw [List.drop_zero] at h2
  exact ⟨decide (r ≥ 0), rfl, by rw [decide_eq_true_iff]; exact h2⟩

/-- A word has an answer in the map just if it came. -/
theorem map_mem (ws : List ByteArray) (s : ByteArray) : ∀ j, j ≤ ws.length → ((mapOf false ws j (keyOf s)).isSome ↔ s ∈ ws.take j) := by
  intro j
  induction j with
  | zero => intro _; simp [mapOf]
  | succ j ih =>
    intro hj
    have hlt : j < ws.length := by omega
    have hs : ws[j]? = some ws[j] := List.getElem?_eq_getElem hlt
    rw [mapOf_succ hs, List.take_add_one, hs]
    simp only [stepM, Bool.false_or, Option.toList_some, List.mem_append, List.mem_singleton]
    by_cases hn : (mapOf false ws j (keyOf ws[j])).isNone = true
    · rw [if_pos hn]
      simp only [setM]
      by_cases e : keyOf s = keyOf ws[j]
      · rw [if_pos e]
        simp [keyOf_inj e]
      · rw [if_neg e, ih (by omega)]
        constructor
        · exact .inl
        · rintro (h | h)
          · exact h
          · exact absurd (by rw [h]) e
    · rw [if_neg hn, ih (by omega)]
      constructor
      · exact .inl
      · rintro (h | h)
        · exact h
        · refine (ih (by omega)).1 ?_
          cases hm : mapOf false ws j (keyOf s) with
          | none => rw [← h, hm] at hn; simp at hn
          | some v => rfl

theorem news_l0 (ws : List ByteArray) (hmax : ws.length ≤ 1000) : ∀ (d k i : Nat), i + d = ws.length → d + ws.length + 1 < k → spec_News.l0 k ws (newsOf ws i) ws (ws.length : Int) (i : Int) = some (newsOf ws ws.length) := by
  intro d
  induction d with
  | zero =>
    intro k i hi hk
    obtain ⟨k, rfl⟩ : ∃ m, k = m + 1 := ⟨k - 1, by omega⟩
    simp only [spec_News.l0]
    rw [if_neg (by omega), show i = ws.length by omega]
  | succ d ih =>
    intro k i hi hk
    obtain ⟨k, rfl⟩ : ∃ m, k = m + 1 := ⟨k - 1, by omega⟩
    have hlt : i < ws.length := by omega
    simp only [spec_News.l0]
    obtain ⟨b, hb, hbi⟩ := contains_ok (ws.take i) ws[i] (by rw [List.length_take]; omega) k (by rw [List.length_take]; omega)
    rw [if_pos (by omega), if_pos (by omega), if_pos (by omega), if_pos (by omega), rdOf_at _ ws i hlt, Int.toNat_natCast, hb]
    simp only [Option.bind_some]
    have hl : (newsOf ws i).length = i := by simp [newsOf]
    rw [if_pos (by omega)]
    have : wrap64 ((i : Int) + 1) = ((i + 1 : Nat) : Int) := by unfold wrap64; omega
    rw [this]
    have hn : newsOf ws i ++ [!b] = newsOf ws (i + 1) := by
      rw [newsOf_succ ws i (List.getElem?_eq_getElem hlt)]
      congr 2
      have h := hbi.trans (map_mem ws ws[i] i (by omega)).symm
      cases hm : mapOf false ws i (keyOf ws[i]) with
      | none => rw [hm] at h; cases b <;> simp_all
      | some v => rw [hm] at h; cases b <;> simp_all
    rw [hn]
    exact ih k (i + 1) (by omega) (by omega)

theorem news_ok (ws : List ByteArray) (hmax : ws.length ≤ 1000) (k : Nat) (hk : 2 * ws.length + 1 < k) : spec_News.f k ws = some (newsOf ws ws.length) := by
  unfold spec_News.f
  have := news_l0 ws hmax ws.length k 0 (by omega) (by omega)
  exact this

theorem equal_l0 (l : List Bool) (hmax : l.length ≤ 1000000) : ∀ (d k i : Nat), i + d = l.length → d < k → slices_Equal_bool_bool.l0 k l l (l.length : Int) (i : Int) = some true := by
  intro d
  induction d with
  | zero =>
    intro k i hi hk
    obtain ⟨k, rfl⟩ : ∃ m, k = m + 1 := ⟨k - 1, by omega⟩
    simp only [slices_Equal_bool_bool.l0]
    rw [if_neg (by omega)]
  | succ d ih =>
    intro k i hi hk
    obtain ⟨k, rfl⟩ : ∃ m, k = m + 1 := ⟨k - 1, by omega⟩
    simp only [slices_Equal_bool_bool.l0]
    have : wrap64 ((i : Int) + 1) = ((i + 1 : Nat) : Int) := by unfold wrap64; omega
    rw [if_pos (by omega), if_pos (by omega), if_pos (by omega), if_pos (by omega), if_neg (by simp), this]
    exact ih k (i + 1) (by omega) (by omega)

theorem same_ok (l : List Bool) (hmax : l.length ≤ 1000000) (k : Nat) (hk : l.length < k) : spec_SameTruths.f k l l = some true := by
  unfold spec_SameTruths.f slices_Equal_bool_bool.f
  rw [if_pos rfl]
  have := equal_l0 l hmax l.length k 0 (by omega) hk
  have h0 : ((0 : Nat) : Int) = 0 := rfl
  rw [h0] at this
  rw [this]
  rfl

set_option maxRecDepth 100000 in
set_option maxHeartbeats 3200000 in
theorem walk (a0 a1 : Int) (A2 : Option Addr) (c2 : Nat) (l2 : List Int) (w : World) (h0 : 0 ≤ a0 ∧ a0 < 256) (h1 : 0 ≤ a1 ∧ a1 < 256)
    (hr2 : Kd.C (Kd.int .u8) w A2 l2.length l2) (hc2 : l2.length ≤ c2) (hl2 : ∀ x, x ∈ l2 → 0 ≤ x ∧ x < 256) :
    Calls Try.prog 4 #[.int .u8 a0, .int .u8 a1, .slice A2 l2.length c2] w (fun e w' => e = .returned (.bool true) ∧ Below w.heap.size w w') := by
  obtain ⟨ws, hws, hok⟩ := put_ok l2 hl2 (l2.length + 9) (by omega)
  obtain ⟨n, hn, hn1, hn2⟩ := node_ok a0 h0
  obtain ⟨m, hm, hm1, hm2⟩ := sparse_ok a1 h1
  have hmax := hok.max
  have hnew := news_ok ws (by omega) (2 * ws.length + 2) (by omega)
  have hlen : (newsOf ws ws.length).length = ws.length := by simp [newsOf]
  have hsame := same_ok (newsOf ws ws.length) (by omega) (ws.length + 1) (by omega)
  have P1 := Lib.hid (spec_Put.calls (l2.length + 9) A2 c2 l2 ws w hr2 hc2 hws)
  have P3 := Lib.hid (fun w1 => spec_Node.calls a0 n w1 hn)
  have P4 := Lib.hid (fun w1 => spec_Sparse.calls a1 m w1 hm)
  have HO := Lib.hid (⟨hok, hn1, hm1, hm2, hnew, hsame⟩ : _ ∧ _ ∧ _ ∧ _ ∧ _ ∧ _)
  clear hr2 hws hn hm hok hnew hsame hlen
  by_cases g2 : (l2.length : Int) > 2147483647
  · go_enter Try.func4, Try.ntmps4
    go_wp2_with fail
    all_goals
      go_ret
      exact ⟨rfl, Below.refl _ _⟩
  · go_enter Try.func4, Try.ntmps4
    go_wp2_with fail
    refine P1.out.mono ?_
    rintro e w1 ⟨v, rfl, hR, hB1⟩
    have hrow := row_of hR
    have hws2 := HO.out.1.ws
    obtain ⟨g, c, rfl, hg, hgc, hcell⟩ := hrow.slice (by rintro rfl; have := hws2.two; simp at this)
    have hrow1 : Row w1 (.slice (some ⟨g, 0, none⟩) ws.length c) ws := row_of hR
    have HR1 := Lib.hid (⟨hR, hrow1, tch_below hB1⟩ : _ ∧ _ ∧ _)
    clear hR hrow hrow1 hcell hB1 hws2
    go_wp2_with fail
    refine (P3.out w1).mono ?_
    rintro e w3 ⟨rfl, hD3⟩
    have HB3 := Lib.hid (tch_below hD3.below)
    clear hD3
    go_wp2_with fail
    refine (P4.out w3).mono ?_
    rintro e w4 ⟨rfl, hD4⟩
    have HB4 := Lib.hid (tch_below hD4.below)
    clear hD4
    have hT4 : Hid (Tch w1 w4 (fun _ => False)) := HB3.out.trans HB4.out (fun _ _ h => h)
    have hL := Lib.hid (added_any w4 n m HO.out.2.1 HO.out.2.2.1 (by have := HO.out.2.2.2.1; omega) _ ws HO.out.1.ws (Row.tchF HR1.out.2.1 hT4.out) (by omega))
    go_wp2_with fail
    refine hL.out.mono ?_
    rintro e w5 ⟨v5, rfl, hR5, hT5⟩
    have HT5 : Hid (Tch w1 w5 (fun _ => False)) := hT4.out.trans hT5 (fun _ _ h => h)
    clear hT5
    obtain ⟨A', c', e', hl', hC⟩ := Kd.R_reads HR1.out.1
    injection e' with e1 e2 e3
    subst e1
    have hC5 := Kd.C_below hC (HT5.out.below (B := w1.heap.size) (fun _ _ h => h.elim) (Nat.le_refl _))
    have hS := Lib.hid (spec_News.calls (2 * ws.length + 2) (some ⟨g, 0, none⟩) c ws _ w5 hC5 hgc HO.out.2.2.2.2.1)
    obtain ⟨A5, c5, rfl, hl5, hC5b⟩ := Kd.R_reads hR5
    have H5 := Lib.hid (⟨hl5, hC5b⟩ : _ ∧ _)
    clear hC hC5 hl' e2 e3 hR5 hl5 hC5b
    go_wp2_with fail
    refine hS.out.mono ?_
    rintro e w6 ⟨v6, rfl, hR6, hB6⟩
    obtain ⟨A6, c6, rfl, hl6, hC6⟩ := Kd.R_reads hR6
    have hC56 := Kd.C_below H5.out.2 hB6
    have hSame := Lib.hid (spec_SameTruths.calls (ws.length + 1) A5 c5 _ A6 c6 _ true w6 hC56 H5.out.1 hC6 hl6 HO.out.2.2.2.2.2)
    have HT6 : Hid (Tch w w6 (fun _ => False)) := (HR1.out.2.2.trans HT5.out (fun _ _ h => h)).trans (tch_below hB6) (fun _ _ h => h)
    clear hR6 hl6 hC6 hC56 hB6
    go_wp2_with fail
    refine hSame.out.mono ?_
    rintro e w6' ⟨rfl, hD6⟩
    have HT6' : Hid (Tch w w6' (fun _ => False)) := HT6.out.trans (tch_below hD6.below) (fun _ _ h => h)
    clear hD6
    go_wp2_with fail
    refine (has_true _ w6'.heap.size (heap_new w6' _)).mono ?_
    rintro e w7 ⟨rfl, hT7⟩
    have HT7 : Hid (Tch w w7 (fun _ => False)) := (HT6'.out.alloc _).trans hT7 (fun _ _ h => h)
    clear hT7
    go_wp2_with fail
    go_ret
    exact ⟨rfl, HT7.out.below (fun _ _ h => h.elim) (Nat.le_refl _)⟩

end Go.Proofs.Ytmdbnjepajifpaa.AddedLaw
