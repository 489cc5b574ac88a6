/- Get, Match, MatchSubtree. -/
import Derived.Test.YtmdbnjepajifpaaPutNew
namespace Go.Proofs.Ytmdbnjepajifpaa
open Go.RowKit

section
variable {w : World} {t : Nat} {mp : Int} {rp : List UInt8} {M : List UInt8 → Option Int} {O : Nat → Prop} {N : Nat → Prop} {nd : Nat → Nd} {wd : Nat → List UInt8} {S : Nat → List UInt8} {sh : Nat → Nat}

/-- Beneath each node there is a key. -/
theorem has_key (A : TA w t mp rp M O N nd wd S sh) {m : Nat} (hm : 1 ≤ m) (L : Lf m N nd) : ∀ (n : Nat) (p : Nat), 10 - (wd p).length ≤ n → N p → ∃ k, M k ≠ none ∧ wd p <+: k := by
  intro n
  induction n with
  | zero =>
    intro p hn hp
    rcases L p hp with h | h
    · exact ⟨wd p, by rw [A.C.at_ p hp]; exact h, List.prefix_refl _⟩
    · exfalso
      obtain ⟨c, hc⟩ : ∃ c, c ∈ (nd p).cl.kids := by
        cases hk : (nd p).cl.kids with
        | nil => rw [hk] at h; simp at h; omega
        | cons c l => exact ⟨c, by simp⟩
      have h1 := A.T.I.kid_longer hp hc
      have h2 := A.T.I.len c (A.T.I.kid p hp c hc).1
      omega
  | succ n ih =>
    intro p hn hp
    rcases L p hp with h | h
    · exact ⟨wd p, by rw [A.C.at_ p hp]; exact h, List.prefix_refl _⟩
    · obtain ⟨c, hc⟩ : ∃ c, c ∈ (nd p).cl.kids := by
        cases hk : (nd p).cl.kids with
        | nil => rw [hk] at h; simp at h; omega
        | cons c l => exact ⟨c, by simp⟩
      have h1 := A.T.I.kid_longer hp hc
      have h2 := A.T.I.len c (A.T.I.kid p hp c hc).1
      obtain ⟨k, hk, hpre⟩ := ih c (by omega) (A.T.I.kid p hp c hc).1
      exact ⟨k, hk, (A.T.I.kid_pre hp hc).trans hpre⟩

theorem no_key (A : TA w t mp rp M O N nd wd S sh) {K : List UInt8} (h : ∀ r, N r → ¬ K <+: wd r) : ∀ k, M k ≠ none → ¬ K <+: k := by
  intro k hk hpre
  obtain ⟨p, hp, e⟩ := A.C.of k hk
  exact h p hp (by rw [e]; exact hpre)
end

set_option maxHeartbeats 1600000 in
theorem get_any (w : World) (t lf : Nat) (mp : Int) (rp : List UInt8) (M : List UInt8 → Option Int) (O : Nat → Prop) (T : TrieAt w t lf mp rp M O) (kb kc : Nat) (K : List UInt8) (hK : KS w kb 0 K) (hkc : K.length ≤ kc) (hk1 : K.length ≤ 10) :
    Calls Try.prog 63 #[ptr t, .slice (some ⟨kb, 0, none⟩) K.length kc] w (RetD (itv (M K)) w) := by
  obtain ⟨N, nd, wd, S, sh, A, L⟩ := T
  have HF := Lib.hid (find_any w A.T kb 0 kc K hK hkc hk1)
  have HA := Lib.hid A
  clear A hK
  go_enter Try.func63, Try.ntmps63
  go_wp2_with fail
  refine HF.out.mono ?_
  rintro e w' ⟨P, q, fnd, lo, rfl, ⟨n, rfl⟩, hno, hyes⟩
  cases fnd with
  | false =>
    have hM : M K = none := by
      by_cases h : M K = none
      · exact h
      · exact absurd (List.prefix_refl K) (no_key HA.out (hno rfl) K h)
    have HM := Lib.hid hM
    clear hno hyes hM
    go_wp2_with fail
    all_goals
      go_ret
      exact retD _ (by rw [HM.out]; rfl) rfl
  | true =>
    obtain ⟨hN, _, _, sb, o', m', rest, rfl, hw, _⟩ := hyes rfl
    clear hno hyes
    have c1 := (HA.out.T.H q hN).c1
    by_cases hr : rest.length = 0
    · have hM : M K = (nd q).it := by
        rw [← HA.out.C.at_ q hN, hw, List.length_eq_zero_iff.1 hr, List.append_nil]
      have hz : ((rest.length : Int) != 0) = false := by rw [bne_eq_false_iff_eq]; omega
      have HM := Lib.hid hM
      clear hM hw
      go_wp2_with fail
      all_goals
        go_ret
        exact retD _ (by rw [HM.out]; rfl) rfl
    · have hM : M K = none := by
        by_cases h : M K = none
        · exact h
        · exfalso
          obtain ⟨p, hp, e⟩ := HA.out.C.of K h
          rename_i hall _
          have := (hall p hp (by rw [e]; exact List.prefix_refl _)).length_le
          rw [hw, e, List.length_append] at this
          omega
      have hz : ((rest.length : Int) != 0) = true := by rw [bne_iff_ne]; omega
      have HM := Lib.hid hM
      clear hM hw
      go_wp2_with fail
      all_goals
        go_ret
        exact retD _ (by rw [HM.out]; rfl) rfl

theorem match_any (w : World) (t lf : Nat) (mp : Int) (rp : List UInt8) (M : List UInt8 → Option Int) (O : Nat → Prop) (T : TrieAt w t lf mp rp M O) (kb kc : Nat) (K : List UInt8) (hK : KS w kb 0 K) (hkc : K.length ≤ kc) (hk1 : K.length ≤ 10) :
    Calls Try.prog 64 #[ptr t, .slice (some ⟨kb, 0, none⟩) K.length kc] w (RetD (.bool (M K).isSome) w) := by
  have HG := Lib.hid (get_any w t lf mp rp M O T kb kc K hK hkc hk1)
  clear T hK
  go_enter Try.func64, Try.ntmps64
  go_wp2_with fail
  refine HG.out.mono ?_
  rintro e w' ⟨rfl, n, rfl⟩
  cases hM : M K with
  | none =>
    have HM := Lib.hid hM
    simp only [itv]
    clear hM
    go_wp2_with fail
    go_ret
    exact retD _ (by rw [HM.out]; rfl) rfl
  | some v =>
    have HM := Lib.hid hM
    simp only [itv]
    clear hM
    go_wp2_with fail
    go_ret
    exact retD _ (by rw [HM.out]; rfl) rfl

theorem matchSub_any (w : World) (t lf : Nat) (hlf : 1 ≤ lf) (mp : Int) (rp : List UInt8) (M : List UInt8 → Option Int) (O : Nat → Prop) (T : TrieAt w t lf mp rp M O) (kb kc : Nat) (K : List UInt8) (hK : KS w kb 0 K) (hkc : K.length ≤ kc) (hk1 : K.length ≤ 10) :
    Calls Try.prog 42 #[ptr t, .slice (some ⟨kb, 0, none⟩) K.length kc] w (fun e w' => ∃ b, RetD (.bool b) w e w' ∧ (b = true ↔ ∃ k, M k ≠ none ∧ K <+: k)) := by
  obtain ⟨N, nd, wd, S, sh, A, L⟩ := T
  have HF := Lib.hid (find_any w A.T kb 0 kc K hK hkc hk1)
  have HA := Lib.hid A
  have HL := Lib.hid L
  clear A L hK
  go_enter Try.func42, Try.ntmps42
  go_wp2_with fail
  refine HF.out.mono ?_
  rintro e w' ⟨P, q, fnd, lo, rfl, ⟨n, rfl⟩, hno, hyes⟩
  have hb : fnd = true ↔ ∃ k, M k ≠ none ∧ K <+: k := by
    cases fnd with
    | false =>
      simp only [Bool.false_eq_true, false_iff]
      rintro ⟨k, hk, hp⟩
      exact no_key HA.out (hno rfl) k hk hp
    | true =>
      simp only [true_iff]
      obtain ⟨hN, _, _, sb, o', m', rest, _, hw, _⟩ := hyes rfl
      obtain ⟨k, hk, hp⟩ := has_key HA.out hlf HL.out _ q (Nat.le_refl _) hN
      exact ⟨k, hk, (by rw [hw]; exact List.prefix_append _ _ : K <+: wd q).trans hp⟩
  have HB := Lib.hid hb
  clear hno hyes hb
  go_wp2_with fail
  go_ret
  exact ⟨fnd, retD _ rfl rfl, HB.out⟩

end Go.Proofs.Ytmdbnjepajifpaa
