/- slices.Sort of strings, as the laid contract has it. -/
import Derived.Test.YtmdbnjepajifpaaGreatShelf
import Derived.Test.YtmdbnjepajifpaaGreatSpecAllFnExactKeys
set_option linter.unusedVariables false
set_option linter.unusedSimpArgs false
namespace Go.Proofs.YtmdbnjepajifpaaGreat.WsFnExactKeys

theorem sortC : SortC := fun g cap ss w h1 h2 h3 => Tryz.slices_Sort_string g 0 cap ss w h1 h2 h3

end Go.Proofs.YtmdbnjepajifpaaGreat.WsFnExactKeys
