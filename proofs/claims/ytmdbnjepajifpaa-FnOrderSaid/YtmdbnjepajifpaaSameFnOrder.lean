/- spec.Same at a list and itself, as printed. -/
import Derived.Test.YtmdbnjepajifpaaPFnOrderx
import Derived.Test.YtmdbnjepajifpaaC4
set_option linter.unusedVariables false
set_option linter.unusedSimpArgs false
namespace Go.Proofs.Ytmdbnjepajifpaa.WsFnOrder
open Go.RowKit Go.Proofs.YtmdbnjepajifpaaW.PrintWords Go.Proofs.YtmdbnjepajifpaaW.PrintLast Go.Proofs.YtmdbnjepajifpaaW.PrintMore Go.Proofs.Ytmdbnjepajifpaa.PFnOrder Go.Proofs.Ytmdbnjepajifpaa

theorem same_l0 (l : List ByteArray) (hmax : l.length ≤ 1000000) : ∀ (d k i : Nat), i + d = l.length → d < k → slices_Equal_string_string.l0 k l l (l.length : Int) (i : Int) = some true := by
  intro d
  induction d with
  | zero =>
    intro k i hi hk
    obtain ⟨k, rfl⟩ : ∃ m, k = m + 1 := ⟨k - 1, by omega⟩
    simp only [slices_Equal_string_string.l0]
    rw [if_neg (by omega)]
  | succ d ih =>
    intro k i hi hk
    obtain ⟨k, rfl⟩ : ∃ m, k = m + 1 := ⟨k - 1, by omega⟩
    have : wrap64 ((i : Int) + 1) = ((i + 1 : Nat) : Int) := by unfold wrap64; omega
    have h1 : (i : Int) < (l.length : Int) := by omega
    have h2 : (0 : Int) ≤ (i : Int) := by omega
    simp only [slices_Equal_string_string.l0]
    rw [if_pos h1, if_pos h2, if_pos h1, if_pos h1, if_pos trivial, this]
    exact ih k (i + 1) (by omega) (by omega)

theorem same_strs (l : List ByteArray) (hmax : l.length ≤ 1000000) (k : Nat) (hk : l.length < k) : spec_Same.f k l l = some true := by
  unfold spec_Same.f slices_Equal_string_string.f
  rw [if_pos rfl]
  have := same_l0 l hmax l.length k 0 (by omega) hk
  have h0 : ((0 : Nat) : Int) = 0 := rfl
  rw [h0] at this
  rw [this]
  rfl

end Go.Proofs.Ytmdbnjepajifpaa.WsFnOrder
