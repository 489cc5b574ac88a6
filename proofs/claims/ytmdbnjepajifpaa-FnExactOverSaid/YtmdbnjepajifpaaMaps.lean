/- The maps that words make: pure facts. -/
import Derived.Test.YtmdbnjepajifpaaC4
namespace Go.Proofs.Ytmdbnjepajifpaa
open Go.RowKit

/-- A word has an answer in the map just if it came. -/
theorem map_mem (ws : List ByteArray) (s : ByteArray) : ∀ j, j ≤ ws.length → ((mapOf false ws j (keyOf s)).isSome ↔ s ∈ ws.take j) := by
  intro j
  induction j with
  | zero => intro _; simp [mapOf]
  | succ j ih =>
    intro hj
    have hlt : j < ws.length := by omega
    have hs : ws[j]? = some ws[j] := List.getElem?_eq_getElem hlt
    rw [mapOf_succ hs, List.take_add_one, hs]
    simp only [stepM, Bool.false_or, Option.toList_some, List.mem_append, List.mem_singleton]
    by_cases hn : (mapOf false ws j (keyOf ws[j])).isNone = true
    · rw [if_pos hn]
      simp only [setM]
      by_cases e : keyOf s = keyOf ws[j]
      · rw [if_pos e]
        simp [keyOf_inj e]
      · rw [if_neg e, ih (by omega)]
        constructor
        · exact .inl
        · rintro (h | h)
          · exact h
          · exact absurd (by rw [h]) e
    · rw [if_neg hn, ih (by omega)]
      constructor
      · exact .inl
      · rintro (h | h)
        · exact h
        · refine (ih (by omega)).1 ?_
          cases hm : mapOf false ws j (keyOf s) with
          | none => rw [← h, hm] at hn; simp at hn
          | some v => rfl

end Go.Proofs.Ytmdbnjepajifpaa
