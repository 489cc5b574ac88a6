/- slices.Sort of strings, as the laid contract has it. -/
import Derived.Test.YtmdbnjepajifpaaShelf
import Derived.Test.YtmdbnjepajifpaaSpecAllFnExactAt
set_option linter.unusedVariables false
set_option linter.unusedSimpArgs false
namespace Go.Proofs.Ytmdbnjepajifpaa.WsFnExactAt

theorem sortC : SortC := fun g cap ss w h1 h2 h3 => Try.slices_Sort_string g 0 cap ss w h1 h2 h3

end Go.Proofs.Ytmdbnjepajifpaa.WsFnExactAt
