/- next, length and head of a list of children, sparse or dense. -/
import Derived.Test.YtmdbnjepajifpaaMem
namespace Go.Proofs.Ytmdbnjepajifpaa
open Go.RowKit

set_option maxHeartbeats 1600000 in
theorem sp_next (w : World) (fb : Nat → UInt8) (l a cap : Nat) (ks : List Nat) (b : UInt8) (hraw : CLraw w (.sp l a cap ks)) (hkb : ∀ c, c ∈ ks → FB w c (fb c)) :
    Calls Try.prog 116 #[ptr l, .int .u8 (b.toNat : Int)] w (RetD (optr (ks.find? (fun c => fb c == b))) w) := by
  obtain ⟨hl, hcap, hc2, C, ha, hC, hk⟩ := hraw
  have c0 : w.cell? ⟨l, 0, none⟩ = some (.slice (some ⟨a, 0, none⟩) ks.length cap) := by rw [cell_of_block hl]; rfl
  have hcells : ∀ (i c : Nat), ks[i]? = some c → w.cell? ⟨a, i, none⟩ = some (ptr c) := fun i c h => by rw [cell_of_block ha]; exact hk i c h
  have HC := Lib.hid hcells
  have HK := Lib.hid hkb
  have hcl : ks.length ≤ 1000 := by omega
  clear hl ha hC hk hcells hkb
  go_enter Try.func116, Try.ntmps116
  go_wp2_with fail
  go_loop [12] (fun i => ∃ k : Nat, k ≤ ks.length ∧ i = .int .i64 k ∧ Hid (ks.find? (fun c => fb c == b) = (ks.drop k).find? (fun c => fb c == b))) (fun i => ks.length - (intOf i).toNat)
  case atStart => exact ⟨0, Nat.zero_le _, rfl, (rfl : ks.find? _ = (ks.drop 0).find? _)⟩
  case round =>
    obtain ⟨k, hkk, rfl, HF⟩ := hrel
    by_cases h1 : k < ks.length
    · obtain ⟨c, hc⟩ : ∃ c, ks[k]? = some c := ⟨ks[k], by simp [h1]⟩
      have c1 := HC.out k c hc
      obtain ⟨sb, so, n, cp, c2, hn, c3⟩ := HK.out c (List.mem_of_getElem? hc)
      have g1 : (k : Int) < (ks.length : Int) := by omega
      have HF2 := Lib.hid hc
      clear hc
      by_cases h3 : fb c = b
      · have h4 : (((fb c).toNat : Int) == (b.toNat : Int)) = true := by simp [h3]
        go_wp2_with fail
        go_ret
        exact retD0 (by rw [HF.out, find_here HF2.out h3]; rfl)
      · have h4 : (((fb c).toNat : Int) == (b.toNat : Int)) = false := by
          rw [beq_eq_false_iff_ne]; intro h; exact h3 (UInt8.toNat_inj.1 (by omega))
        go_wp2_with fail
        go_round
        case rel => exact ⟨k + 1, by omega, by go_num, HF.out.trans (find_on HF2.out h3)⟩
        case measure => simp [intOf]; omega
    · go_wp2_with fail
      go_ret
      exact retD0 (by rw [HF.out, List.drop_eq_nil_of_le (by omega)]; rfl)


theorem dn_find {fb : Nat → UInt8} {mn : Nat} {arr : List (Option Nat)} {b : UInt8} (hp : ∀ (i c : Nat), arr[i]? = some (some c) → (fb c).toNat = mn + i)
    (x : Option Nat) (hx : mn ≤ b.toNat → arr[b.toNat - mn]? = some x ∨ (arr[b.toNat - mn]? = none ∧ x = none)) (hlo : b.toNat < mn → x = none) :
    (arr.filterMap id).find? (fun c => fb c == b) = x := by
  cases hf : (arr.filterMap id).find? (fun c => fb c == b) with
  | some c =>
    have h1 := List.mem_of_find?_eq_some hf
    have h2 : fb c = b := by simpa using List.find?_some hf
    simp only [List.mem_filterMap, id] at h1
    obtain ⟨y, hy, rfl⟩ := h1
    obtain ⟨i, hi⟩ := List.mem_iff_getElem?.1 hy
    have h3 := hp i c hi
    rw [h2] at h3
    have h4 : b.toNat - mn = i := by omega
    rcases hx (by omega) with h | ⟨h, _⟩
    · rw [h4, hi] at h
      simpa using h
    · rw [h4, hi] at h; simp at h
  | none =>
    by_cases hm : mn ≤ b.toNat
    · rcases hx hm with h | ⟨_, h⟩
      · cases x with
        | none => rfl
        | some c =>
          exfalso
          rw [List.find?_eq_none] at hf
          have h1 := hf c (by simp only [List.mem_filterMap, id]; exact ⟨some c, List.mem_of_getElem? h, rfl⟩)
          have h2 := hp _ c h
          apply h1
          simp only [beq_iff_eq]
          exact UInt8.toNat_inj.1 (by omega)
      · exact h.symm
    · exact (hlo (by omega)).symm

set_option maxHeartbeats 1600000 in
theorem dn_next (w : World) (fb : Nat → UInt8) (l a mn hi : Nat) (arr : List (Option Nat)) (b : UInt8) (hraw : CLraw w (.dn l a mn hi arr)) (hp : ∀ (i c : Nat), arr[i]? = some (some c) → (fb c).toNat = mn + i) :
    Calls Try.prog 148 #[ptr l, .int .u8 (b.toNat : Int)] w (RetD (optr ((arr.filterMap id).find? (fun c => fb c == b))) w) := by
  obtain ⟨hl, hcap, hhi, hnone, ha⟩ := hraw
  have c0 : w.cell? ⟨l, 0, none⟩ = some (.int .i64 mn) := by rw [cell_of_block hl]; rfl
  have c1 : w.cell? ⟨l, 1, none⟩ = some (.int .i64 ((mn : Int) + arr.length - 1)) := by rw [cell_of_block hl]; rfl
  have c4 : w.cell? ⟨l, 4, none⟩ = some (.slice (some ⟨a, 0, none⟩) arr.length arr.length) := by rw [cell_of_block hl]; rfl
  have hbb : b.toNat < 256 := b.toNat_lt
  by_cases h1 : b.toNat < mn
  · rw [dn_find hp none (by omega) (fun _ => rfl)]
    clear hp hnone hl ha
    have g1 : (b.toNat : Int) < (mn : Int) := by omega
    go_enter Try.func148, Try.ntmps148
    go_wp2_with fail
    go_ret
    exact retD0 rfl
  · by_cases h2 : mn + arr.length ≤ b.toNat
    · rw [dn_find hp none (fun _ => .inr ⟨List.getElem?_eq_none (by omega), rfl⟩) (fun _ => rfl)]
      clear hp hnone hl ha
      have g1 : ¬ (b.toNat : Int) < (mn : Int) := by omega
      have g2 : (mn : Int) + (arr.length : Int) - 1 < (b.toNat : Int) := by omega
      go_enter Try.func148, Try.ntmps148
      go_wp2_with fail
      go_ret
      exact retD0 rfl
    · have hi2 : b.toNat - mn < arr.length := by omega
      obtain ⟨x, hx⟩ : ∃ x, arr[b.toNat - mn]? = some x := ⟨_, List.getElem?_eq_getElem hi2⟩
      rw [dn_find hp x (fun _ => .inl hx) (by omega)]
      have c5 : w.cell? ⟨a, b.toNat - mn, none⟩ = some (optr x) := by rw [cell_of_block ha]; simp [hx]
      clear hp hnone hl ha hx
      have g1 : ¬ (b.toNat : Int) < (mn : Int) := by omega
      have g2 : ¬ (mn : Int) + (arr.length : Int) - 1 < (b.toNat : Int) := by omega
      have e1 : IntKind.i64.wrap ((b.toNat : Int) - (mn : Int)) = (b.toNat : Int) - (mn : Int) := IntWalk.i64_in _ (by omega)
      have e2 : (0 : Int) ≤ (b.toNat : Int) - (mn : Int) := by omega
      have e3 : ((b.toNat : Int) - (mn : Int)).toNat = b.toNat - mn := by omega
      have e4 : (b.toNat : Int) - (mn : Int) < (arr.length : Int) := by omega
      go_enter Try.func148, Try.ntmps148
      go_wp2_with fail
      go_quiet (fail)
      go_wp2_with fail
      go_ret
      exact retD _ rfl rfl

theorem sp_len0 (w : World) (l n : Nat) (v : Option Addr) (cap : Nat) (c0 : w.cell? ⟨l, 0, none⟩ = some (.slice v n cap)) :
    Calls Try.prog 115 #[ptr l] w (RetD (.int .i64 n) w) := by
  go_enter Try.func115, Try.ntmps115
  go_wp2_with fail
  go_ret
  exact retD0 rfl

theorem sp_len (w : World) (l a cap : Nat) (ks : List Nat) (hraw : CLraw w (.sp l a cap ks)) :
    Calls Try.prog 115 #[ptr l] w (RetD (.int .i64 ks.length) w) := by
  obtain ⟨hl, hcap, hc2, C, ha, hC, hk⟩ := hraw
  have c0 : w.cell? ⟨l, 0, none⟩ = some (.slice (some ⟨a, 0, none⟩) ks.length cap) := by rw [cell_of_block hl]; rfl
  clear hl ha hC hk
  go_enter Try.func115, Try.ntmps115
  go_wp2_with fail
  go_ret
  exact retD0 rfl

theorem dn_len (w : World) (l a mn hi : Nat) (arr : List (Option Nat)) (hraw : CLraw w (.dn l a mn hi arr)) :
    Calls Try.prog 147 #[ptr l] w (RetD (.int .i64 (arr.filterMap id).length) w) := by
  obtain ⟨hl, hcap, hhi, hnone, ha⟩ := hraw
  have c2 : w.cell? ⟨l, 2, none⟩ = some (.int .i64 (arr.filterMap id).length) := by rw [cell_of_block hl]; rfl
  clear hl ha hnone
  go_enter Try.func147, Try.ntmps147
  go_wp2_with fail
  go_ret
  exact retD0 rfl

/-- The head of a list with one child. -/
theorem sp_head (w : World) (l a cap c : Nat) (hraw : CLraw w (.sp l a cap [c])) :
    Calls Try.prog 114 #[ptr l] w (RetD (ptr c) w) := by
  obtain ⟨hl, hcap, hc2, C, ha, hC, hk⟩ := hraw
  have c0 : w.cell? ⟨l, 0, none⟩ = some (.slice (some ⟨a, 0, none⟩) 1 cap) := by rw [cell_of_block hl]; rfl
  have c1 : w.cell? ⟨a, 0, none⟩ = some (ptr c) := by rw [cell_of_block ha]; exact hk 0 c rfl
  clear hl ha hC hk
  go_enter Try.func114, Try.ntmps114
  go_wp2_with fail
  go_ret
  exact retD0 rfl

theorem dn_head' (w : World) (l a mn hi : Nat) (arr : List (Option Nat)) (x : Option Nat) (hraw : CLraw w (.dn l a mn hi arr)) (hx : arr[hi]? = some x) :
    Calls Try.prog 146 #[ptr l] w (RetD (optr x) w) := by
  obtain ⟨hl, hcap, hhi, hnone, ha⟩ := hraw
  have c3 : w.cell? ⟨l, 3, none⟩ = some (.int .i64 hi) := by rw [cell_of_block hl]; rfl
  have c4 : w.cell? ⟨l, 4, none⟩ = some (.slice (some ⟨a, 0, none⟩) arr.length arr.length) := by rw [cell_of_block hl]; rfl
  have c5 : w.cell? ⟨a, hi, none⟩ = some (optr x) := by rw [cell_of_block ha]; simp [hx]
  have g1 : (hi : Int) < (arr.length : Int) := by omega
  clear hl ha hnone hx
  go_enter Try.func146, Try.ntmps146
  go_wp2_with fail
  go_quiet (fail)
  go_wp2_with fail
  go_ret
  exact retD _ rfl rfl

theorem dn_head (w : World) (l a mn hi : Nat) (arr : List (Option Nat)) (hraw : CLraw w (.dn l a mn hi arr)) :
    ∃ x, (x = none ∨ ∃ c, x = some c ∧ c ∈ arr.filterMap id) ∧ Calls Try.prog 146 #[ptr l] w (RetD (optr x) w) := by
  obtain ⟨x, hx⟩ : ∃ x, arr[hi]? = some x := ⟨_, List.getElem?_eq_getElem hraw.2.2.1⟩
  refine ⟨x, ?_, dn_head' w l a mn hi arr x hraw hx⟩
  cases x with
  | none => exact .inl rfl
  | some c => exact .inr ⟨c, rfl, by simp only [List.mem_filterMap, id]; exact ⟨some c, List.mem_of_getElem? hx, rfl⟩⟩

end Go.Proofs.Ytmdbnjepajifpaa
