/- The word that spec.One tells. -/
import Derived.Test.YtmdbnjepajifpaaGreatWordsFnExactCut
set_option linter.unusedVariables false
set_option linter.unusedSimpArgs false
namespace Go.Proofs.YtmdbnjepajifpaaGreat.WsFnExactCut
open Go.RowKit Go.Proofs.YtmdbnjepajifpaaGreatW.PrintWords Go.Proofs.YtmdbnjepajifpaaGreatW.PrintLast Go.Proofs.YtmdbnjepajifpaaGreatW.PrintMore Go.Proofs.YtmdbnjepajifpaaGreat.PFnExactCut Go.Proofs.YtmdbnjepajifpaaGreat

theorem one_ok (l : List Int) (hl : ∀ x, x ∈ l → 0 ≤ x ∧ x < 256) (k : Nat) (hk : 8 ≤ k) : ∃ s, spec_One.f k l = some s ∧ WordOk s := by
  obtain ⟨s, n, hs, hok, _⟩ := word_ok l hl k hk
  exact ⟨s, by unfold spec_One.f; rw [hs]; rfl, hok⟩

end Go.Proofs.YtmdbnjepajifpaaGreat.WsFnExactCut
