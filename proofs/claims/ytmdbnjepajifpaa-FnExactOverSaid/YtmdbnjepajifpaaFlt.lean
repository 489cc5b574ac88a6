/- What the filters of spec.All share. -/
import Derived.Test.YtmdbnjepajifpaaBegins
namespace Go.Proofs.Ytmdbnjepajifpaa
open Go.RowKit Go.Proofs.YtmdbnjepajifpaaW.PrintWords Go.Proofs.YtmdbnjepajifpaaW.PrintLast Go.Proofs.YtmdbnjepajifpaaW.PrintMore

/-- What a filter returns: the words that are put and meet the test, in order, each once. -/
def FltP (w : World) (ws : List ByteArray) (cond : Wd → Bool) (e : Ending) (w' : World) : Prop :=
  ∃ (v : Value) (T : List Wd), e = .returned v ∧ Kd.R Kd.string 9 w' w.heap.size (fun _ => True) v (T.map strB) ∧ Srt T ∧ (∀ u, u ∈ T ↔ (∃ s, s ∈ ws ∧ keyOf s = u) ∧ cond u = true) ∧ T.length ≤ ws.length ∧ Tch w w' (fun _ => False)

theorem flt_step (cond : Wd → Bool) {S : List Wd} {j : Nat} {u : Wd} (h : S[j]? = some u) : (S.take (j + 1)).filter cond = (S.take j).filter cond ++ (if cond u = true then [u] else []) := by
  rw [List.take_add_one, h, List.filter_append]
  congr 1
  rw [Option.toList_some]
  by_cases hc : cond u = true
  · rw [if_pos hc, List.filter_cons_of_pos hc, List.filter_nil]
  · rw [if_neg hc, List.filter_cons_of_neg hc, List.filter_nil]
theorem flt_len (cond : Wd → Bool) (S : List Wd) (j : Nat) : ((S.take j).filter cond).length ≤ S.length :=
  Nat.le_trans (List.length_filter_le _ _) (by rw [List.length_take]; omega)

theorem flt_post {w w1 wr : World} {ws : List ByteArray} {cond : Wd → Bool} {S : List Wd} {v : Value} (hT : Tch w w1 (fun _ => False)) (hS : Srt S) (hm : ∀ u, u ∈ S ↔ ∃ s, s ∈ ws ∧ keyOf s = u ∧ s ∉ ([] : List ByteArray)) (hl : S.length ≤ ws.length)
    (hT1 : Tch w1 wr (fun _ => False)) (hR : Kd.R Kd.string 9 wr w1.heap.size (fun _ => True) v ((S.filter cond).map strB)) : FltP w ws cond (.returned v) wr := by
  refine ⟨v, S.filter cond, rfl, Kd.R_lower hR hT.size, List.Pairwise.sublist List.filter_sublist hS, fun u => ?_, Nat.le_trans (List.length_filter_le _ _) hl, hT.trans hT1 (fun _ _ h => h)⟩
  rw [List.mem_filter, hm]
  constructor
  · rintro ⟨⟨s, h1, h2, _⟩, h3⟩; exact ⟨⟨s, h1, h2⟩, h3⟩
  · rintro ⟨⟨s, h1, h2⟩, h3⟩; exact ⟨⟨s, h1, h2, by simp⟩, h3⟩

end Go.Proofs.Ytmdbnjepajifpaa
