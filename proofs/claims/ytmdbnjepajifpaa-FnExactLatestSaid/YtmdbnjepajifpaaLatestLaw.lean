/- FnExactLatest: at a key stands what was set last. No condition: for every input the law returns true. -/
import Derived.Test.YtmdbnjepajifpaaWordsFnExactLatest
namespace Go.Proofs.Ytmdbnjepajifpaa.LatestLaw
open Go.RowKit Go.Proofs.YtmdbnjepajifpaaW.PrintWords Go.Proofs.YtmdbnjepajifpaaW.PrintLast Go.Proofs.YtmdbnjepajifpaaW.PrintMore Go.Proofs.Ytmdbnjepajifpaa.PFnExactLatest Go.Proofs.Ytmdbnjepajifpaa Go.Proofs.Ytmdbnjepajifpaa.WsFnExactLatest

theorem key_eq (s u : ByteArray) : (s.toList = u.toList) ↔ keyOf s = keyOf u := by rw [ByteArray.toList_eq, ByteArray.toList_eq]; rfl

theorem map_over (ws : List ByteArray) (j : Nat) (s : ByteArray) (hj : ws[j]? = some s) (K : List UInt8) : mapOf true ws (j + 1) K = if K = keyOf s then some (j : Int) else mapOf true ws j K := by
  rw [mapOf_succ hj]
  simp only [stepM, Bool.true_or, if_true, setM]

theorem latest_l0 (ws : List ByteArray) (s : ByteArray) (hmax : ws.length ≤ 1000000) : ∀ (d k : Nat), d < k → d ≤ ws.length →
    spec_Latest.l0 k ws s ((d : Int) - 1) = some ((mapOf true ws d (keyOf s)).getD 0, (mapOf true ws d (keyOf s)).isSome) := by
  intro d
  induction d with
  | zero =>
    intro k hk _
    obtain ⟨k, rfl⟩ : ∃ m, k = m + 1 := ⟨k - 1, by omega⟩
    simp only [spec_Latest.l0]
    rw [if_neg (by omega)]
    rfl
  | succ d ih =>
    intro k hk hd
    obtain ⟨k, rfl⟩ : ∃ m, k = m + 1 := ⟨k - 1, by omega⟩
    simp only [spec_Latest.l0]
    have hj : ws[d]? = some ws[d] := List.getElem?_eq_getElem (by omega)
    have hrd : rdOf ByteArray.empty ws (((d + 1 : Nat) : Int) - 1) = ws[d] := by
      unfold rdOf
      rw [show (((d + 1 : Nat) : Int) - 1).toNat = d by omega, List.getD_eq_getElem?_getD, hj]
      rfl
    rw [if_pos (by omega), if_pos (by omega), if_pos (by omega), hrd, map_over ws d _ hj]
    by_cases e : keyOf s = keyOf ws[d]
    · rw [if_pos ((key_eq _ _).2 e.symm), if_pos e]
      have : ((d + 1 : Nat) : Int) - 1 = (d : Int) := by omega
      rw [this]
      rfl
    · rw [if_neg (fun h => e ((key_eq _ _).1 h).symm), if_neg e]
      have : wrap64 (((d + 1 : Nat) : Int) - 1 - 1) = (d : Int) - 1 := by unfold wrap64; omega
      rw [this]
      exact ih k (by omega) (by omega)

theorem latest_ok (ws : List ByteArray) (s : ByteArray) (hmax : ws.length ≤ 1000000) (k : Nat) (hk : ws.length < k) : spec_Latest.f k ws s = some ((mapOf true ws ws.length (keyOf s)).getD 0, (mapOf true ws ws.length (keyOf s)).isSome) := by
  unfold spec_Latest.f
  rw [show wrap64 ((ws.length : Int) - 1) = (ws.length : Int) - 1 by unfold wrap64; omega]
  exact latest_l0 ws s hmax ws.length k hk (Nat.le_refl _)

/-- A row that was made, as a row of words. -/
theorem row_of {w : World} {base : Nat} {ok : Nat → Prop} {v : Value} {ws : List ByteArray} (h : Kd.R Kd.string 9 w base ok v ws) : Row w v ws := by
  obtain ⟨A, c, rfl, hl, hc⟩ := Kd.R_reads h
  obtain ⟨inner, ho⟩ := Kd.R_own h
  rcases ho.2 with ⟨h1, h2⟩ | ⟨g, cap, cur, h1, hg, hh, hr⟩
  · left
    injection h1 with e1 e2 e3
    have : ws = [] := List.length_eq_zero_iff.1 e2
    rw [e1, e2, e3, this]
    exact ⟨rfl, rfl⟩
  · right
    injection h1 with e1 e2 e3
    subst e1
    refine ⟨g, c, rfl, lt_of_heap hh, hl, fun i s hi => ?_⟩
    have hlt := (List.getElem?_eq_some_iff.1 hi).1
    obtain ⟨ad, e, hcell⟩ := Kd.at_string hc (i : Int) (by omega) (by omega)
    injection e with e
    subst e
    have h2 : (⟨g, 0, none⟩ : Addr).add i = ⟨g, i, none⟩ := by simp [Addr.add]; exact fun h => h.symm
    rw [Int.toNat_natCast, h2] at hcell
    rw [hcell]
    unfold rdOf
    rw [Int.toNat_natCast, List.getD_eq_getElem?_getD, hi]
    rfl

theorem has_AZ : ∃ k, mapOf false [⟨#[65]⟩, ⟨#[90]⟩] 2 k ≠ none ∧ keyOf ⟨#[65]⟩ <+: k := ⟨[65], by decide, by decide⟩

theorem ws_AZ : WS [⟨#[65]⟩, ⟨#[90]⟩] := ⟨by simp, rfl, rfl, fun s hs => by
  simp only [List.mem_cons, List.not_mem_nil, or_false] at hs
  rcases hs with rfl | rfl <;> exact ⟨by decide, by decide⟩⟩

theorem Row.tchF {w w1 : World} {v : Value} {ws : List ByteArray} (h : Row w v ws) (hT : Tch w w1 (fun _ => False)) : Row w1 v ws := h.tch hT (fun _ _ h => h)
theorem tch_below {w w1 : World} (h : Below w.heap.size w w1) : Tch w w1 (fun _ => False) := ⟨h.os, h.tape, h.output, h.size, fun k hk _ => h.block k hk⟩

/-- impl.Has(9, 9, A Z, A). -/
theorem has_true (w : World) (g : Nat) (hg : w.heap[g]? = some (.cells #[.string ⟨#[65]⟩, .string ⟨#[90]⟩] 9 (0, 0))) :
    Calls Try.prog 18 #[.int .i64 9, .int .i64 9, .slice (some ⟨g, 0, none⟩) 2 2, .string ⟨#[65]⟩] w (fun e w' => e = .returned (.bool true) ∧ Tch w w' (fun _ => False)) := by
  have hrow : Row w (.slice (some ⟨g, 0, none⟩) 2 2) [⟨#[65]⟩, ⟨#[90]⟩] := by
    refine .inr ⟨g, 2, rfl, lt_of_heap hg, by simp, fun i s hs => ?_⟩
    rw [cell_of_block hg]
    match i with
    | 0 => simp at hs; subst hs; rfl
    | 1 => simp at hs; subst hs; rfl
    | i + 2 => simp at hs
  have h := has_any w 9 9 (by omega) (by omega) (by omega) _ _ ws_AZ hrow (by simp) ⟨#[65]⟩ (by decide)
  refine h.mono ?_
  rintro e w' ⟨b, rfl, hb, hT⟩
  exact ⟨by rw [hb.2 has_AZ], hT⟩

set_option maxRecDepth 100000 in
set_option maxHeartbeats 3200000 in
theorem walk (a0 a1 : Int) (A2 A3 : Option Addr) (c2 c3 : Nat) (l2 l3 : List Int) (w : World) (h0 : 0 ≤ a0 ∧ a0 < 256) (h1 : 0 ≤ a1 ∧ a1 < 256)
    (hr2 : Kd.C (Kd.int .u8) w A2 l2.length l2) (hc2 : l2.length ≤ c2) (hl2 : ∀ x, x ∈ l2 → 0 ≤ x ∧ x < 256) (hr3 : Kd.C (Kd.int .u8) w A3 l3.length l3) (hc3 : l3.length ≤ c3) (hl3 : ∀ x, x ∈ l3 → 0 ≤ x ∧ x < 256) :
    Calls Try.prog 3 #[.int .u8 a0, .int .u8 a1, .slice A2 l2.length c2, .slice A3 l3.length c3] w (fun e w' => e = .returned (.bool true) ∧ Below w.heap.size w w') := by
  obtain ⟨ws, hws, hok⟩ := put_ok l2 hl2 (l2.length + 9) (by omega)
  obtain ⟨s, hs, hsok⟩ := one_ok l3 hl3 8 (by omega)
  obtain ⟨n, hn, hn1, hn2⟩ := node_ok a0 h0
  obtain ⟨m, hm, hm1, hm2⟩ := sparse_ok a1 h1
  have hlat := latest_ok ws s (by have := hok.max; omega) (ws.length + 1) (by omega)
  have P1 := Lib.hid (spec_Put.calls (l2.length + 9) A2 c2 l2 ws w hr2 hc2 hws)
  have P2 : Hid (∀ w1, Tch w w1 (fun _ => False) → _) := fun w1 (hT : Tch w w1 (fun _ => False)) => spec_One.calls 8 A3 c3 l3 s w1 (Kd.C_below hr3 (hT.below (B := w.heap.size) (fun _ _ h => h.elim) (Nat.le_refl _))) hc3 hs
  have P3 := Lib.hid (fun w1 => spec_Node.calls a0 n w1 hn)
  have P4 := Lib.hid (fun w1 => spec_Sparse.calls a1 m w1 hm)
  have HO := Lib.hid (⟨hok, hsok, hn1, hm1, hm2, hlat⟩ : _ ∧ _ ∧ _ ∧ _ ∧ _ ∧ _)
  clear hr2 hr3 hws hs hn hm hlat hok hsok
  by_cases g2 : (l2.length : Int) > 2147483647
  · go_enter Try.func3, Try.ntmps3
    go_wp2_with fail
    all_goals
      go_ret
      exact ⟨rfl, Below.refl _ _⟩
  · by_cases g3 : (l3.length : Int) > 2147483647
    · go_enter Try.func3, Try.ntmps3
      go_wp2_with fail
      all_goals
        go_ret
        exact ⟨rfl, Below.refl _ _⟩
    · go_enter Try.func3, Try.ntmps3
      go_wp2_with fail
      refine P1.out.mono ?_
      rintro e w1 ⟨v, rfl, hR, hB1⟩
      have hrow := row_of hR
      have hws2 := HO.out.1.ws
      obtain ⟨g, c, rfl, hg, hgc, hcell⟩ := hrow.slice (by rintro rfl; have := hws2.two; simp at this)
      have hrow1 : Row w1 (.slice (some ⟨g, 0, none⟩) ws.length c) ws := row_of hR
      have HR1 := Lib.hid (⟨hR, hrow1, tch_below hB1⟩ : _ ∧ _ ∧ _)
      clear hR hrow hrow1 hcell hB1 hws2
      go_wp2_with fail
      refine (P2.out w1 HR1.out.2.2).mono ?_
      rintro e w2 ⟨rfl, hB2⟩
      have HB2 := Lib.hid (tch_below hB2)
      clear hB2
      go_wp2_with fail
      refine (P3.out w2).mono ?_
      rintro e w3 ⟨rfl, hD3⟩
      have HB3 := Lib.hid (tch_below hD3.below)
      clear hD3
      go_wp2_with fail
      refine (P4.out w3).mono ?_
      rintro e w4 ⟨rfl, hD4⟩
      have HB4 := Lib.hid (tch_below hD4.below)
      clear hD4
      have hT4 : Hid (Tch w1 w4 (fun _ => False)) := (HB2.out.trans HB3.out (fun _ _ h => h)).trans HB4.out (fun _ _ h => h)
      have hL := Lib.hid (latest_any w4 n m HO.out.2.2.1 HO.out.2.2.2.1 (by have := HO.out.2.2.2.2.1; omega) _ ws HO.out.1.ws (Row.tchF HR1.out.2.1 hT4.out) (by have := HO.out.1.max; omega) s (by have := HO.out.2.1.2.1; omega))
      go_wp2_with fail
      refine hL.out.mono ?_
      unfold itemV
      rintro e w5 ⟨rfl, hT5⟩
      have HT5 : Hid (Tch w1 w5 (fun _ => False)) := hT4.out.trans hT5 (fun _ _ h => h)
      clear hT5
      obtain ⟨A', c', e', hl', hC⟩ := Kd.R_reads HR1.out.1
      injection e' with e1 e2 e3
      subst e1
      have hC5 := Kd.C_below hC (HT5.out.below (B := w1.heap.size) (fun _ _ h => h.elim) (Nat.le_refl _))
      have hS := Lib.hid (spec_Latest.calls (ws.length + 1) (some ⟨g, 0, none⟩) c ws s _ _ w5 hC5 hgc HO.out.2.2.2.2.2)
      clear hC hC5 hl' e2 e3
      go_wp2_with fail
      refine hS.out.mono ?_
      rintro e w6 ⟨rfl, hD6⟩
      have HT6 : Hid (Tch w w6 (fun _ => False)) := (HR1.out.2.2.trans HT5.out (fun _ _ h => h)).trans (tch_below hD6.below) (fun _ _ h => h)
      clear hD6
      generalize (mapOf true ws ws.length (keyOf s)).getD 0 = r1
      generalize (mapOf true ws ws.length (keyOf s)).isSome = r2
      have q1 : (r1 == r1) = true := by simp
      have q2 : (r2 == r2) = true := by simp
      go_wp2_with fail
      all_goals
        refine (has_true _ w6.heap.size (heap_new w6 _)).mono ?_
        rintro e w7 ⟨rfl, hT7⟩
        have HT7 : Hid (Tch w w7 (fun _ => False)) := (HT6.out.alloc _).trans hT7 (fun _ _ h => h)
        clear hT7
        go_wp2_with fail
        go_ret
        exact ⟨rfl, HT7.out.below (fun _ _ h => h.elim) (Nat.le_refl _)⟩

end Go.Proofs.Ytmdbnjepajifpaa.LatestLaw
