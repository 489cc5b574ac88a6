/- FnExactAt: at a key stands what was inserted first, as long as it is not deleted. No condition: for every input the law returns true. -/
import Derived.Test.YtmdbnjepajifpaaLessPFnExactAt
import Derived.Test.YtmdbnjepajifpaaOneFnExactAt
import Derived.Test.YtmdbnjepajifpaaGone
namespace Go.Proofs.Ytmdbnjepajifpaa.AtLaw
open Go.RowKit Go.Proofs.YtmdbnjepajifpaaW.PrintWords Go.Proofs.YtmdbnjepajifpaaW.PrintLast Go.Proofs.YtmdbnjepajifpaaW.PrintMore Go.Proofs.Ytmdbnjepajifpaa.PFnExactAt Go.Proofs.Ytmdbnjepajifpaa Go.Proofs.Ytmdbnjepajifpaa.WsFnExactAt

/-- Where a word came first. -/
theorem map_first (ws : List ByteArray) (s : ByteArray) {i : Nat} (hi : ws[i]? = some s) (h : ∀ j, j < i → ws[j]? ≠ some s) : ∀ n, i < n → n ≤ ws.length → mapOf false ws n (keyOf s) = some (i : Int) := by
  intro n
  induction n with
  | zero => intro h; omega
  | succ n ih =>
    intro hin hn
    have hlt : n < ws.length := by omega
    have hs : ws[n]? = some ws[n] := List.getElem?_eq_getElem hlt
    rw [mapOf_succ hs]
    simp only [stepM, Bool.false_or]
    by_cases e : i = n
    · subst e
      rw [hi] at hs
      injection hs with hs
      rw [← hs]
      have hno : mapOf false ws i (keyOf s) = none := by
        cases hm : mapOf false ws i (keyOf s) with
        | none => rfl
        | some v =>
          exfalso
          have := (map_mem ws s i (by omega)).1 (by rw [hm]; rfl)
          obtain ⟨j, hj, hje⟩ := List.mem_take_iff_getElem.1 this
          exact h j (by omega) (by rw [List.getElem?_eq_getElem (by omega), hje])
      rw [hno]
      simp [setM]
    · have hp := ih (by omega) (by omega)
      by_cases hk : (mapOf false ws n (keyOf ws[n])).isNone = true
      · rw [if_pos hk]
        simp only [setM]
        by_cases e2 : keyOf s = keyOf ws[n]
        · rw [← e2, hp] at hk
          cases hk
        · rw [if_neg e2]; exact hp
      · rw [if_neg hk]; exact hp

theorem index_map (ws : List ByteArray) (s : ByteArray) (hmax : ws.length ≤ 1000) : ∀ (d k i : Nat), i + d = ws.length → d < k → (∀ j, j < i → ws[j]? ≠ some s) →
    ∃ r, slices_Index_string_string.l0 k ws s (ws.length : Int) (i : Int) = some r ∧ ((mapOf false ws ws.length (keyOf s) = none ∧ r < 0) ∨ (mapOf false ws ws.length (keyOf s) = some r ∧ 0 ≤ r)) := by
  intro d
  induction d with
  | zero =>
    intro k i hi hk hno
    obtain ⟨k, rfl⟩ : ∃ m, k = m + 1 := ⟨k - 1, by omega⟩
    refine ⟨-1, ?_, .inl ⟨?_, by omega⟩⟩
    · simp only [slices_Index_string_string.l0]; rw [if_neg (by omega)]
    · cases hm : mapOf false ws ws.length (keyOf s) with
      | none => rfl
      | some v =>
        exfalso
        have := (map_mem ws s ws.length (Nat.le_refl _)).1 (by rw [hm]; rfl)
        obtain ⟨j, hj, hje⟩ := List.mem_take_iff_getElem.1 this
        exact hno j (by omega) (by rw [List.getElem?_eq_getElem (by omega), hje])
  | succ d ih =>
    intro k i hi hk hno
    obtain ⟨k, rfl⟩ : ∃ m, k = m + 1 := ⟨k - 1, by omega⟩
    have hlt : i < ws.length := by omega
    simp only [slices_Index_string_string.l0]
    rw [if_pos (by omega), if_pos (by omega), if_pos (by omega), rdOf_at _ ws i hlt]
    by_cases e : keyOf s = keyOf ws[i]
    · rw [if_pos ((key_eq _ _).2 e)]
      have hs : ws[i]? = some s := by rw [List.getElem?_eq_getElem hlt, keyOf_inj e]
      exact ⟨i, rfl, .inr ⟨map_first ws s hs hno ws.length hlt (Nat.le_refl _), by omega⟩⟩
    · rw [if_neg (fun h => e ((key_eq _ _).1 h))]
      have : wrap64 ((i : Int) + 1) = ((i + 1 : Nat) : Int) := by unfold wrap64; omega
      rw [this]
      refine ih k (i + 1) (by omega) (by omega) (fun j hj h => ?_)
      by_cases ej : j = i
      · subst ej
        rw [List.getElem?_eq_getElem hlt] at h
        injection h with h
        exact e (by rw [h])
      · exact hno j (by omega) h

theorem at_ok (ws gs : List ByteArray) (s : ByteArray) (hmax : ws.length ≤ 42) (hg : gs.length ≤ 30) : spec_At.f 100 ws gs s = some ((dropM (mapOf false ws ws.length) gs gs.length (keyOf s)).getD 0, (dropM (mapOf false ws ws.length) gs gs.length (keyOf s)).isSome) := by
  obtain ⟨r, h1, h2⟩ := index_map ws s (by omega) ws.length 100 0 (by omega) (by omega) (fun j hj => by omega)
  have h0 : ((0 : Nat) : Int) = 0 := rfl
  rw [h0] at h1
  unfold spec_At.f slices_Index_string_string.f
  rw [h1]
  simp only [Option.bind_some]
  have hd1 : s ∈ gs → dropM (mapOf false ws ws.length) gs gs.length (keyOf s) = none := fun h => by
    unfold dropM
    rw [List.take_length, if_pos (List.mem_map.2 ⟨s, h, rfl⟩)]
  have hd2 : ¬ s ∈ gs → dropM (mapOf false ws ws.length) gs gs.length (keyOf s) = mapOf false ws ws.length (keyOf s) := fun h => by
    unfold dropM
    rw [List.take_length, if_neg]
    intro hm
    obtain ⟨u, hu, e⟩ := List.mem_map.1 hm
    exact h (keyOf_inj e ▸ hu)
  rcases h2 with ⟨h2, h3⟩ | ⟨h2, h3⟩
  · rw [if_pos h3]
    by_cases h : s ∈ gs
    · rw [hd1 h]; rfl
    · rw [hd2 h, h2]; rfl
  · rw [if_neg (by omega)]
    obtain ⟨b, hb, hbi⟩ := contains_ok gs s (by omega) 100 (by omega)
    rw [hb]
    simp only [Option.bind_some]
    cases b with
    | true => rw [if_pos rfl, hd1 (hbi.1 rfl)]; rfl
    | false =>
      have hn : ¬ s ∈ gs := fun h => absurd (hbi.2 h) (by decide)
      rw [if_neg (by decide), hd2 hn, h2]; rfl

set_option maxRecDepth 100000 in
set_option maxHeartbeats 3200000 in
theorem walk (a0 a1 : Int) (A2 A3 A4 : Option Addr) (c2 c3 c4 : Nat) (l2 l3 l4 : List Int) (w : World) (h0 : 0 ≤ a0 ∧ a0 < 256) (h1 : 0 ≤ a1 ∧ a1 < 256)
    (hr2 : Kd.C (Kd.int .u8) w A2 l2.length l2) (hc2 : l2.length ≤ c2) (hl2 : ∀ x, x ∈ l2 → 0 ≤ x ∧ x < 256) (hr3 : Kd.C (Kd.int .u8) w A3 l3.length l3) (hc3 : l3.length ≤ c3) (hl3 : ∀ x, x ∈ l3 → 0 ≤ x ∧ x < 256) (hr4 : Kd.C (Kd.int .u8) w A4 l4.length l4) (hc4 : l4.length ≤ c4) (hl4 : ∀ x, x ∈ l4 → 0 ≤ x ∧ x < 256) :
    Calls Try.prog 6 #[.int .u8 a0, .int .u8 a1, .slice A2 l2.length c2, .slice A3 l3.length c3, .slice A4 l4.length c4] w (fun e w' => e = .returned (.bool true) ∧ Below w.heap.size w w') := by
  obtain ⟨ws, hws, hok⟩ := put_ok l2 hl2 (l2.length + 9) (by omega)
  have hmax := hok.max
  obtain ⟨gs, hgs, hgo⟩ := less_ok ws hmax l3 hl3 101 (by omega)
  obtain ⟨n, hn, hn1, hn2⟩ := node_ok a0 h0
  obtain ⟨m, hm, hm1, hm2⟩ := sparse_ok a1 h1
  have hgl := hgo.len
  obtain ⟨s, hs, hsok⟩ := one_ok l4 hl4 8 (by omega)
  have hat := at_ok ws gs s hmax hgl
  have P1 := Lib.hid (spec_Put.calls (l2.length + 9) A2 c2 l2 ws w hr2 hc2 hws)
  have P2 : Hid (∀ w1, Tch w w1 (fun _ => False) → ∀ A0 c0, Kd.C Kd.string w1 A0 ws.length ws → ws.length ≤ c0 → _) := fun w1 (hT : Tch w w1 (fun _ => False)) A0 c0 (h : Kd.C Kd.string w1 A0 ws.length ws) (h' : ws.length ≤ c0) => spec_Less.calls 101 A0 c0 ws A3 c3 l3 gs w1 h h' (Kd.C_below hr3 (hT.below (B := w.heap.size) (fun _ _ h => h.elim) (Nat.le_refl _))) hc3 hgs
  have P5 : Hid (∀ w1, Tch w w1 (fun _ => False) → _) := fun w1 (hT : Tch w w1 (fun _ => False)) => spec_One.calls 8 A4 c4 l4 s w1 (Kd.C_below hr4 (hT.below (B := w.heap.size) (fun _ _ h => h.elim) (Nat.le_refl _))) hc4 hs
  have P3 := Lib.hid (fun w1 => spec_Node.calls a0 n w1 hn)
  have P4 := Lib.hid (fun w1 => spec_Sparse.calls a1 m w1 hm)
  have HO := Lib.hid (⟨hok, hgo, hn1, hm1, hm2, hat, hsok⟩ : _ ∧ _ ∧ _ ∧ _ ∧ _ ∧ _ ∧ _)
  clear hr2 hr3 hr4 hws hgs hn hm hok hgo hat hs hsok
  by_cases g2 : (l2.length : Int) > 2147483647
  · go_enter Try.func6, Try.ntmps6
    go_wp2_with fail
    all_goals
      go_ret
      exact ⟨rfl, Below.refl _ _⟩
  · by_cases g3 : (l3.length : Int) > 2147483647
    · go_enter Try.func6, Try.ntmps6
      go_wp2_with fail
      all_goals
        go_ret
        exact ⟨rfl, Below.refl _ _⟩
    · by_cases g4 : (l4.length : Int) > 2147483647
      · go_enter Try.func6, Try.ntmps6
        go_wp2_with fail
        all_goals
          go_ret
          exact ⟨rfl, Below.refl _ _⟩
      · go_enter Try.func6, Try.ntmps6
        go_wp2_with fail
        refine P1.out.mono ?_
        rintro e w1 ⟨v, rfl, hR, hB1⟩
        have hrow := row_of hR
        have hws2 := HO.out.1.ws
        obtain ⟨g, c, rfl, hg, hgc, hcell⟩ := hrow.slice (by rintro rfl; have := hws2.two; simp at this)
        have hrow1 : Row w1 (.slice (some ⟨g, 0, none⟩) ws.length c) ws := row_of hR
        obtain ⟨A', c', e', hl', hC⟩ := Kd.R_reads hR
        injection e' with e1 e2 e3
        subst e1
        have HR1 := Lib.hid (⟨hC, hrow1, tch_below hB1⟩ : _ ∧ _ ∧ _)
        clear hR hrow hrow1 hcell hB1 hws2 hC hl' e2 e3
        go_wp2_with fail
        refine (P5.out w1 HR1.out.2.2).mono ?_
        rintro e w1b ⟨rfl, hB1b⟩
        have HB1b := Lib.hid (tch_below hB1b)
        have HC1b := Lib.hid (Kd.C_below HR1.out.1 hB1b)
        clear hB1b
        go_wp2_with fail
        refine (P2.out w1b (HR1.out.2.2.trans HB1b.out (fun _ _ h => h)) (some ⟨g, 0, none⟩) c HC1b.out hgc).mono ?_
        rintro e w2 ⟨v2, rfl, hR2, hB2⟩
        have hrow2 := row_of hR2
        obtain ⟨A2', c2', rfl, hl2', hC2⟩ := Kd.R_reads hR2
        have HR2 := Lib.hid (⟨hC2, hrow2, tch_below hB2⟩ : _ ∧ _ ∧ _)
        clear hR2 hrow2 hC2 hB2
        go_wp2_with fail
        refine (P3.out w2).mono ?_
        rintro e w3 ⟨rfl, hD3⟩
        have HB3 := Lib.hid (tch_below hD3.below)
        clear hD3
        go_wp2_with fail
        refine (P4.out w3).mono ?_
        rintro e w4 ⟨rfl, hD4⟩
        have HB4 := Lib.hid (tch_below hD4.below)
        clear hD4
        have hT24 : Hid (Tch w2 w4 (fun _ => False)) := HB3.out.trans HB4.out (fun _ _ h => h)
        have hT14 : Hid (Tch w1 w4 (fun _ => False)) := (HB1b.out.trans HR2.out.2.2 (fun _ _ h => h)).trans hT24.out (fun _ _ h => h)
        have hL := Lib.hid (at_any w4 n m HO.out.2.2.1 HO.out.2.2.2.1 (by have := HO.out.2.2.2.2.1; omega) _ ws HO.out.1.ws (Row.tchF HR1.out.2.1 hT14.out) (by omega) _ gs (Row.tchF HR2.out.2.1 hT24.out) (less_go HO.out.1 HO.out.2.1 false rfl) (by omega) s (by have := HO.out.2.2.2.2.2.2.2.1; omega))
        go_wp2_with fail
        refine hL.out.mono ?_
        unfold itemV
        rintro e w5 ⟨rfl, hT5⟩
        have HT25 : Hid (Tch w2 w5 (fun _ => False)) := hT24.out.trans hT5 (fun _ _ h => h)
        have HT15 : Hid (Tch w1 w5 (fun _ => False)) := hT14.out.trans hT5 (fun _ _ h => h)
        clear hT5
        have hS := Lib.hid (spec_At.calls 100 (some ⟨g, 0, none⟩) c ws A2' c2' gs s _ _ w5 (Kd.C_below HR1.out.1 (HT15.out.below (B := w1.heap.size) (fun _ _ h => h.elim) (Nat.le_refl _))) hgc (Kd.C_below HR2.out.1 (HT25.out.below (B := w2.heap.size) (fun _ _ h => h.elim) (Nat.le_refl _))) hl2' HO.out.2.2.2.2.2.1)
        go_wp2_with fail
        refine hS.out.mono ?_
        rintro e w6 ⟨rfl, hD6⟩
        have HT6 : Hid (Tch w w6 (fun _ => False)) := (HR1.out.2.2.trans HT15.out (fun _ _ h => h)).trans (tch_below hD6.below) (fun _ _ h => h)
        clear hD6
        generalize (dropM (mapOf false ws ws.length) gs gs.length (keyOf s)).getD 0 = r1
        generalize (dropM (mapOf false ws ws.length) gs gs.length (keyOf s)).isSome = r2
        have q1 : (r1 == r1) = true := by simp
        have q2 : (r2 == r2) = true := by simp
        go_wp2_with fail
        all_goals
          refine (has_true _ w6.heap.size (heap_new w6 _)).mono ?_
          rintro e w7 ⟨rfl, hT7⟩
          have HT7 : Hid (Tch w w7 (fun _ => False)) := (HT6.out.alloc _).trans hT7 (fun _ _ h => h)
          clear hT7
          go_wp2_with fail
          go_ret
          exact ⟨rfl, HT7.out.below (fun _ _ h => h.elim) (Nat.le_refl _)⟩

end Go.Proofs.Ytmdbnjepajifpaa.AtLaw
