/- What the functions of impl that hand back words share. -/
import Derived.Test.YtmdbnjepajifpaaFlt
import Derived.Test.YtmdbnjepajifpaaMaps
namespace Go.Proofs.Ytmdbnjepajifpaa
open Go.RowKit Go.Proofs.YtmdbnjepajifpaaW.PrintWords Go.Proofs.YtmdbnjepajifpaaW.PrintLast Go.Proofs.YtmdbnjepajifpaaW.PrintMore

/-- The words of a map that meet a test, in order, each once. -/
def ImpP (w : World) (M : Wd → Option Int) (cond : Wd → Bool) (e : Ending) (w' : World) : Prop :=
  ∃ (v : Value) (T : List Wd), e = .returned v ∧ Kd.R Kd.string 9 w' w.heap.size (fun _ => True) v (T.map strB) ∧ Srt T ∧ (∀ u, u ∈ T ↔ M u ≠ none ∧ cond u = true) ∧ Tch w w' (fun _ => False)

theorem map_iff (ws : List ByteArray) (u : Wd) : mapOf false ws ws.length u ≠ none ↔ ∃ s, s ∈ ws ∧ keyOf s = u := by
  constructor
  · intro h
    have h1 := (map_mem ws (strB u) ws.length (Nat.le_refl _)).1 (by rw [key_strB]; cases hx : mapOf false ws ws.length u with
      | none => exact absurd hx h
      | some x => rfl)
    rw [List.take_length] at h1
    exact ⟨strB u, h1, key_strB u⟩
  · rintro ⟨s, hs, rfl⟩ e
    have := (map_mem ws s ws.length (Nat.le_refl _)).2 (by rw [List.take_length]; exact hs)
    rw [e] at this
    cases this

/-- Both sides tell one list. -/
theorem imp_flt {ws : List ByteArray} {cond : Wd → Bool} {T U : List Wd} (hT : Srt T) (h1 : ∀ u, u ∈ T ↔ mapOf false ws ws.length u ≠ none ∧ cond u = true) (hU : Srt U) (h2 : ∀ u, u ∈ U ↔ (∃ s, s ∈ ws ∧ keyOf s = u) ∧ cond u = true) : T = U :=
  Srt.ext hT hU (fun u => by rw [h1, h2, map_iff])

end Go.Proofs.Ytmdbnjepajifpaa
