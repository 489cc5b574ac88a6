/- spec.Less tells words that are there, each once, none of A and Z. -/
import Derived.Test.YtmdbnjepajifpaaSlFnOrder
import Derived.Test.YtmdbnjepajifpaaC8
import Derived.Test.YtmdbnjepajifpaaDrops
set_option linter.unusedVariables false
set_option linter.unusedSimpArgs false
namespace Go.Proofs.Ytmdbnjepajifpaa.WsFnOrder
open Go.RowKit Go.Proofs.YtmdbnjepajifpaaW.PrintWords Go.Proofs.YtmdbnjepajifpaaW.PrintLast Go.Proofs.YtmdbnjepajifpaaW.PrintMore Go.Proofs.Ytmdbnjepajifpaa.PFnOrder Go.Proofs.Ytmdbnjepajifpaa

structure LessOk (ws gs : List ByteArray) : Prop where
  len : gs.length ≤ 30
  nodup : gs.Nodup
  mem : ∀ s, s ∈ gs → s ∈ ws.drop 2

theorem less_l0 (ws : List ByteArray) (hw : ws.length ≤ 42) (l : List Int) (hl : ∀ x, x ∈ l → 0 ≤ x ∧ x < 256) : ∀ (d k i : Nat) (acc : List ByteArray), i + d = 30 → 2 * d + 40 < k → acc.length ≤ i → acc.Nodup → (∀ s, s ∈ acc → s ∈ ws.drop 2) →
    ∃ r, spec_Less.l0 k ws l acc (i : Int) = some r ∧ LessOk ws r := by
  intro d
  induction d with
  | zero =>
    intro k i acc hi hk hacc hnd hm
    obtain ⟨k, rfl⟩ : ∃ m, k = m + 2 := ⟨k - 2, by omega⟩
    refine ⟨acc, ?_, ⟨by omega, hnd, hm⟩⟩
    have hstop : spec_Less.j1 (k + 1) ws l acc (i : Int) false = some acc := by
      simp only [spec_Less.j1]
      rw [if_neg (by decide)]
    have h30 : ¬ (i : Int) < 30 := by omega
    by_cases h1 : (i : Int) < (l.length : Int)
    · simp only [spec_Less.l0]
      rw [if_pos h1, if_neg h30]
      exact hstop
    · simp only [spec_Less.l0]
      rw [if_neg h1]
      exact hstop
  | succ d ih =>
    intro k i acc hi hk hacc hnd hm
    obtain ⟨k, rfl⟩ : ∃ m, k = m + 2 := ⟨k - 2, by omega⟩
    have hstop : spec_Less.j1 (k + 1) ws l acc (i : Int) false = some acc := by
      simp only [spec_Less.j1]
      rw [if_neg (by decide)]
    have h30 : (i : Int) < 30 := by omega
    by_cases h1 : (i : Int) < (l.length : Int)
    · by_cases h2 : (ws.length : Int) > 2
      · simp only [spec_Less.l0]
        rw [if_pos h1, if_pos h30, decide_eq_true h2]
        simp only [spec_Less.j1]
        rw [if_pos trivial, if_pos (by omega), if_pos h1]
        have hac : acc.length ≤ 1000000 := by omega
        have hack : acc.length < k := by omega
        have hkk : 2 * d + 40 < k := by omega
        have hid : i + 1 + d = 30 := by omega
        have hai : acc.length ≤ i + 1 := by omega
        have e4 : wrap64 ((i : Int) + 1) = ((i + 1 : Nat) : Int) := by unfold wrap64; omega
        have hr := rd_range l hl (i : Int)
        have e1 : wrap64 ((ws.length : Int) - 2) = (ws.length : Int) - 2 := by unfold wrap64; omega
        have e2 : wrap64 (rd l (i : Int)) = rd l (i : Int) := by unfold wrap64; omega
        rw [e1, e2, if_neg (by omega), Int.tmod_eq_emod_of_nonneg hr.1]
        have hm1 := Int.emod_nonneg (rd l (i : Int)) (show (ws.length : Int) - 2 ≠ 0 by omega)
        have hm2 := Int.emod_lt_of_pos (rd l (i : Int)) (show (0 : Int) < (ws.length : Int) - 2 by omega)
        obtain ⟨x, hx⟩ : ∃ x, rd l (i : Int) % ((ws.length : Int) - 2) = x := ⟨_, rfl⟩
        rw [hx] at hm1 hm2 ⊢
        have e3 : wrap64 (2 + x) = ((2 + x.toNat : Nat) : Int) := by unfold wrap64; omega
        have hlt : 2 + x.toNat < ws.length := by omega
        rw [e3, if_pos (by omega), if_pos (by omega), rdOf_at _ ws _ hlt]
        have hmem : ws[2 + x.toNat] ∈ ws.drop 2 := by
          rw [List.mem_drop_iff_getElem]
          exact ⟨x.toNat, by omega, rfl⟩
        obtain ⟨b, hb, hbi⟩ := contains_ok acc ws[2 + x.toNat] hac k hack
        clear e1 e2 e3 hx hm1 hm2
        rw [hb]
        simp only [Option.bind_some]
        rw [e4]
        cases b with
        | true =>
          rw [if_pos rfl]
          exact ih k (i + 1) acc hid hkk hai hnd hm
        | false =>
          rw [if_neg (by decide), if_pos (by omega)]
          refine ih k (i + 1) _ hid hkk (by simp; omega) ?_ ?_
          · rw [List.nodup_append]
            refine ⟨hnd, by simp, fun a ha b hb' => ?_⟩
            simp only [List.mem_singleton] at hb'
            subst hb'
            intro e
            subst e
            exact absurd (hbi.2 ha) (by decide)
          · intro s hs
            rw [List.mem_append] at hs
            rcases hs with hs | hs
            · exact hm s hs
            · simp only [List.mem_singleton] at hs
              rw [hs]; exact hmem
      · refine ⟨acc, ?_, ⟨by omega, hnd, hm⟩⟩
        simp only [spec_Less.l0]
        rw [if_pos h1, if_pos h30, decide_eq_false h2]
        exact hstop
    · refine ⟨acc, ?_, ⟨by omega, hnd, hm⟩⟩
      simp only [spec_Less.l0]
      rw [if_neg h1]
      exact hstop

theorem less_ok (ws : List ByteArray) (hw : ws.length ≤ 42) (l : List Int) (hl : ∀ x, x ∈ l → 0 ≤ x ∧ x < 256) (k : Nat) (hk : 100 < k) : ∃ r, spec_Less.f k ws l = some r ∧ LessOk ws r := by
  obtain ⟨r, h1, h2⟩ := less_l0 ws hw l hl 30 k 0 [] (by omega) (by omega) (by simp) (by simp) (by simp)
  exact ⟨r, h1, h2⟩

theorem word_ne {s : ByteArray} (h : WordOk s) (b : UInt8) (hb : b.toNat < 97) : keyOf s ≠ [b] := by
  intro e
  have := h.2.2 b (by show b ∈ keyOf s; rw [e]; simp)
  omega

/-- The words that are deleted, for the trie into which the words were put. -/
theorem less_go {ws gs : List ByteArray} (P : PutOk ws) (L : LessOk ws gs) (over : Bool) (hover : over = false) : GO (mapOf over ws ws.length) gs := by
  subst hover
  have hW := P.ws
  have hmem : ∀ s, s ∈ ws → mapOf false ws ws.length (keyOf s) ≠ none := fun s hs => by
    have := (map_mem ws s _ (Nat.le_refl _)).2 (by rw [List.take_length]; exact hs)
    intro e
    rw [e] at this
    cases this
  obtain ⟨r, rfl, hr, hwr⟩ := P.ex
  refine ⟨L.nodup, fun s hs => ?_, hmem (⟨#[65]⟩ : ByteArray) (by simp), hmem (⟨#[90]⟩ : ByteArray) (by simp)⟩
  have h1 := L.mem s hs
  have h2 : s ∈ [⟨#[65]⟩, ⟨#[90]⟩] ++ r := List.mem_of_mem_drop h1
  have h3 := hW.len s h2
  have h4 : WordOk s := hwr s (by simpa using h1)
  exact ⟨hmem s h2, h3.1, h3.2, word_ne h4 65 (by decide), word_ne h4 90 (by decide)⟩

end Go.Proofs.Ytmdbnjepajifpaa.WsFnOrder
