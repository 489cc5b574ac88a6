/- longestCommonPrefixLength returns the length of the longest common beginning. -/
import Derived.Test.YtmdbnjepajifpaaBase
namespace Go.Proofs.Ytmdbnjepajifpaa
open Go.RowKit

theorem lcp_step {K L : List UInt8} {k : Nat} {x : UInt8} (h1 : k < K.length) (h2 : k < L.length) (HT : Hid (L.take k = K.take k)) (Hx : Hid (K.getD k 0 = x)) (Hy : Hid (L.getD k 0 = x)) :
    Hid (L.take (k + 1) = K.take (k + 1)) := by
  show L.take (k + 1) = K.take (k + 1)
  have hx := Hx.out
  have hy := Hy.out
  rw [List.take_succ_eq_append_getElem h1, List.take_succ_eq_append_getElem h2, HT.out]
  rw [List.getD_eq_getElem?_getD, List.getElem?_eq_getElem h1] at hx
  rw [List.getD_eq_getElem?_getD, List.getElem?_eq_getElem h2] at hy
  simp at hx hy
  rw [hx, hy]

set_option maxHeartbeats 1600000 in
theorem lcp_any (w : World) (p kb ko kc nb no nc : Nat) (K L : List UInt8)
    (hp : w.cell? ⟨p, 0, none⟩ = some (.slice (some ⟨nb, no, none⟩) L.length nc))
    (hk : ∀ i, i < K.length → w.cell? ⟨kb, ko + i, none⟩ = some (.int .u8 ((K.getD i 0).toNat : Int)))
    (hn : ∀ i, i < L.length → w.cell? ⟨nb, no + i, none⟩ = some (.int .u8 ((L.getD i 0).toNat : Int)))
    (hkl : K.length ≤ 1000000000) (hnl : L.length ≤ 1000000000) :
    Calls Try.prog 70 #[.pointer (some ⟨p, 0, none⟩), .slice (some ⟨kb, ko, none⟩) K.length kc] w (RetD (.int .i64 (lcp L K : Nat)) w) := by
  go_enter Try.func70, Try.ntmps70
  go_wp2_with fail
  go_loopw [4] (fun i wr => ∃ k n : Nat, k ≤ K.length ∧ k ≤ L.length ∧ i = .int .i64 k ∧ wr = w.drewN n ∧ Hid (L.take k = K.take k)) (fun i _ => K.length - (intOf i).toNat)
  case atStart => exact ⟨0, 0, Nat.zero_le _, Nat.zero_le _, rfl, rfl, (rfl : L.take 0 = K.take 0)⟩
  case round =>
    obtain ⟨k, n, hkk, hkL, rfl, rfl, HT⟩ := hrel
    by_cases h1 : k < K.length
    · by_cases h2 : k < L.length
      · have c1 := hk k h1
        have c2 := hn k h2
        clear hk hn
        obtain ⟨x, hx⟩ : ∃ x, K.getD k 0 = x := ⟨_, rfl⟩
        obtain ⟨y, hy⟩ : ∃ y, L.getD k 0 = y := ⟨_, rfl⟩
        rw [hx] at c1
        rw [hy] at c2
        have Hx := Lib.hid hx
        have Hy := Lib.hid hy
        clear hx hy
        have g1 : (k : Int) < (K.length : Int) := by omega
        have g2 : (k : Int) < (L.length : Int) := by omega
        by_cases h3 : x = y
        · subst h3
          go_wp2_with fail
          go_quiet (fail)
          go_wp2_with fail
          go_roundw
          case rel => exact ⟨k + 1, n + nq, by omega, by omega, by go_num, rfl, lcp_step (by omega) (by omega) HT Hx Hy⟩
          case measure => simp [intOf]; omega
        · have h4 : ((x.toNat : Int) == (y.toNat : Int)) = false := by
            rw [beq_eq_false_iff_ne]; intro h; exact h3 (UInt8.toNat_inj.1 (by omega))
          go_wp2_with fail
          go_quiet (fail)
          go_wp2_with fail
          go_ret
          exact retD (n + nq) (by rw [lcp_eq L K k (by omega) (by omega) HT.out (fun _ _ => by rw [Hx.out, Hy.out]; exact fun e => h3 e.symm)]; rfl) (World.drewN_drewN _ _ _)
      · have g1 : (k : Int) < (K.length : Int) := by omega
        have g2 : decide ((k : Int) < (L.length : Int)) = false := by simp; omega
        have g3 : decide (k < L.length) = false := by simp; omega
        clear hk hn
        go_wp2_with fail
        go_quiet (fail)
        go_wp2_with fail
        go_ret
        exact retD (n + nq) (by rw [lcp_eq L K k (by omega) (by omega) HT.out (fun _ _ => by omega)]; rfl) (World.drewN_drewN _ _ _)
    · have g2 : decide ((k : Int) < (K.length : Int)) = false := by simp; omega
      have g3 : decide (k < K.length) = false := by simp; omega
      clear hk hn
      go_wp2_with fail
      go_quiet (fail)
      go_wp2_with fail
      go_ret
      exact retD (n + nq) (by rw [lcp_eq L K k (by omega) (by omega) HT.out (fun _ _ => by omega)]; rfl) (World.drewN_drewN _ _ _)

end Go.Proofs.Ytmdbnjepajifpaa
