/- Words in order: pure facts on sorted lists of words. -/
import Derived.Test.YtmdbnjepajifpaaMaps
namespace Go.Proofs.Ytmdbnjepajifpaa
open Go.RowKit

abbrev Wd := List UInt8

/-- A word as a string. -/
def strB (u : Wd) : ByteArray := ⟨u.toArray⟩
theorem strB_key (s : ByteArray) : strB (keyOf s) = s := by unfold strB keyOf; cases s; simp
theorem key_strB (u : Wd) : keyOf (strB u) = u := by unfold strB keyOf; simp

/-- In order, each once. -/
def Srt (L : List Wd) : Prop := L.Pairwise (fun a b => a < b)

theorem wd_irrefl (a : Wd) : ¬ a < a := List.lt_irrefl a
theorem wd_trans {a b c : Wd} (h : a < b) (k : b < c) : a < c := List.lt_trans h k
theorem wd_total (a b : Wd) : a < b ∨ a = b ∨ b < a := by
  by_cases h : a < b
  · exact .inl h
  · by_cases k : b < a
    · exact .inr (.inr k)
    · exact .inr (.inl (List.le_antisymm (List.not_lt.1 k) (List.not_lt.1 h)))

theorem Srt.nodup {L : List Wd} (h : Srt L) : L.Nodup := h.imp (fun {a b} hab e => by subst e; exact wd_irrefl a hab)

/-- Two lists in order with the same words are one. -/
theorem Srt.ext {L K : List Wd} (h : Srt L) (k : Srt K) (hm : ∀ u, u ∈ L ↔ u ∈ K) : L = K := by
  have hp : L.Perm K := (List.perm_ext_iff_of_nodup h.nodup k.nodup).2 hm
  exact hp.eq_of_pairwise (fun a b _ _ hab hba => absurd (wd_trans hab hba) (wd_irrefl a)) h k

theorem srt_merge {L : List Wd} (h : L.Nodup) : Srt (L.mergeSort fun x y => decide (x ≤ y)) := by
  have hs : (L.mergeSort fun x y => decide (x ≤ y)).Pairwise (fun a b => decide (a ≤ b) = true) :=
    List.pairwise_mergeSort (fun a b c hab hbc => by simp only [decide_eq_true_eq] at *; exact List.le_trans hab hbc) (fun a b => by simp only [Bool.or_eq_true, decide_eq_true_eq]; exact List.le_total a b) L
  have hn : (L.mergeSort fun x y => decide (x ≤ y)).Nodup := (List.mergeSort_perm L _).nodup_iff.2 h
  refine (hs.and hn).imp (fun {a b} hab => ?_)
  have h1 : a ≤ b := by simpa using hab.1
  rcases wd_total a b with h | h | h
  · exact h
  · exact absurd h hab.2
  · exact absurd h (List.not_lt.2 h1)

/-- A proper beginning comes first. -/
theorem pre_lt {a b : Wd} (h : a <+: b) (hl : a.length < b.length) : a < b := by
  obtain ⟨t, rfl⟩ := h
  have ht : t ≠ [] := by rintro rfl; simp at hl
  induction a with
  | nil =>
    cases t with
    | nil => exact absurd rfl ht
    | cons x r => exact List.nil_lt_cons x r
  | cons x r ih => rw [List.cons_append]; exact List.cons_lt_cons_iff.2 (.inr ⟨rfl, ih (by simpa using hl)⟩)

/-- Where two words part, the lesser byte decides. -/
theorem byte_lt {u a b : Wd} {x y : UInt8} (ha : u ++ [x] <+: a) (hb : u ++ [y] <+: b) (h : x < y) : a < b := by
  obtain ⟨s, rfl⟩ := ha
  obtain ⟨t, rfl⟩ := hb
  rw [List.append_assoc, List.append_assoc]
  induction u with
  | nil => exact List.cons_lt_cons_iff.2 (.inl h)
  | cons c r ih => exact List.cons_lt_cons_iff.2 (.inr ⟨rfl, ih⟩)

end Go.Proofs.Ytmdbnjepajifpaa
