/- slices.Index and slices.Contains at strings, as printed. -/
import Derived.Test.YtmdbnjepajifpaaWordsFnOrder
import Derived.Test.YtmdbnjepajifpaaC4
set_option linter.unusedVariables false
set_option linter.unusedSimpArgs false
namespace Go.Proofs.Ytmdbnjepajifpaa.WsFnOrder
open Go.RowKit Go.Proofs.YtmdbnjepajifpaaW.PrintWords Go.Proofs.YtmdbnjepajifpaaW.PrintLast Go.Proofs.YtmdbnjepajifpaaW.PrintMore Go.Proofs.Ytmdbnjepajifpaa.PFnOrder Go.Proofs.Ytmdbnjepajifpaa

theorem rdOf_at {α : Type} (z : α) (l : List α) (i : Nat) (h : i < l.length) : rdOf z l (i : Int) = l[i] := by
  unfold rdOf
  rw [Int.toNat_natCast, List.getD_eq_getElem?_getD, List.getElem?_eq_getElem h]
  rfl

theorem index_l0 (l : List ByteArray) (s : ByteArray) (hmax : l.length ≤ 1000000) : ∀ (d k i : Nat), i + d = l.length → d < k →
    ∃ r, slices_Index_string_string.l0 k l s (l.length : Int) (i : Int) = some r ∧ (r ≥ 0 ↔ s ∈ l.drop i) := by
  intro d
  induction d with
  | zero =>
    intro k i hi hk
    obtain ⟨k, rfl⟩ : ∃ m, k = m + 1 := ⟨k - 1, by omega⟩
    refine ⟨-1, ?_, ?_⟩
    · simp only [slices_Index_string_string.l0]; rw [if_neg (by omega)]
    · rw [List.drop_eq_nil_of_le (by omega)]; simp
  | succ d ih =>
    intro k i hi hk
    obtain ⟨k, rfl⟩ : ∃ m, k = m + 1 := ⟨k - 1, by omega⟩
    have hlt : i < l.length := by omega
    simp only [slices_Index_string_string.l0]
    rw [if_pos (by omega), if_pos (by omega), if_pos (by omega), rdOf_at _ l i hlt]
    by_cases e : keyOf s = keyOf l[i]
    · rw [if_pos ((key_eq _ _).2 e)]
      refine ⟨i, rfl, ?_⟩
      rw [keyOf_inj e, List.drop_eq_getElem_cons hlt]
      exact ⟨fun _ => List.mem_cons_self, fun _ => by omega⟩
    · rw [if_neg (fun h => e ((key_eq _ _).1 h))]
      have : wrap64 ((i : Int) + 1) = ((i + 1 : Nat) : Int) := by unfold wrap64; omega
      rw [this]
      obtain ⟨r, h1, h2⟩ := ih k (i + 1) (by omega) (by omega)
      refine ⟨r, h1, ?_⟩
      rw [h2, List.drop_eq_getElem_cons hlt, List.mem_cons]
      constructor
      · exact .inr
      · rintro (h | h)
        · exact absurd (by rw [h]) e
        · exact h

theorem contains_ok (l : List ByteArray) (s : ByteArray) (hmax : l.length ≤ 1000000) (k : Nat) (hk : l.length < k) : ∃ b, slices_Contains_string_string.f k l s = some b ∧ (b = true ↔ s ∈ l) := by
  obtain ⟨r, h1, h2⟩ := index_l0 l s hmax l.length k 0 (by omega) hk
  unfold slices_Contains_string_string.f slices_Index_string_string.f
  have : ((0 : Nat) : Int) = 0 := rfl
  rw [this] at h1
  rw [h1]
  rw [List.drop_zero] at h2
  exact ⟨decide (r ≥ 0), rfl, by rw [decide_eq_true_iff]; exact h2⟩

end Go.Proofs.Ytmdbnjepajifpaa.WsFnOrder
