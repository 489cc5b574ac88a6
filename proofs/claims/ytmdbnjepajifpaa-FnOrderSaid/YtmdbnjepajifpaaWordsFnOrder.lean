/- The words that are put: what spec.Word, spec.Words, spec.Put tell. No memory here. -/
import Derived.Test.YtmdbnjepajifpaaPFnOrderx
import Derived.Test.YtmdbnjepajifpaaC4
set_option linter.unusedVariables false
set_option linter.unusedSimpArgs false
namespace Go.Proofs.Ytmdbnjepajifpaa.WsFnOrder
open Go.RowKit Go.Proofs.YtmdbnjepajifpaaW.PrintWords Go.Proofs.YtmdbnjepajifpaaW.PrintLast Go.Proofs.YtmdbnjepajifpaaW.PrintMore Go.Proofs.Ytmdbnjepajifpaa.PFnOrder Go.Proofs.Ytmdbnjepajifpaa

/-- One to five small letters. -/
def WordOk (s : ByteArray) : Prop := 1 ≤ s.size ∧ s.size ≤ 5 ∧ ∀ b, b ∈ s.data.toList → 97 ≤ b.toNat ∧ b.toNat ≤ 122

theorem word_strOf (acc : List Int) (h1 : 1 ≤ acc.length) (h5 : acc.length ≤ 5) (h : ∀ x, x ∈ acc → 97 ≤ x ∧ x ≤ 122) : WordOk (strOfNums acc) := by
  have hd : (strOfNums acc).data.toList = acc.map (fun n => UInt8.ofNat n.toNat) := by simp [strOfNums]
  have hs : (strOfNums acc).size = acc.length := by
    show (strOfNums acc).data.size = _
    rw [← Array.length_toList, hd, List.length_map]
  refine ⟨by omega, by omega, fun b hb => ?_⟩
  rw [hd, List.mem_map] at hb
  obtain ⟨x, hx, rfl⟩ := hb
  have := h x hx
  simp
  omega

theorem rd_range (l : List Int) (hl : ∀ x, x ∈ l → 0 ≤ x ∧ x < 256) (i : Int) : 0 ≤ rd l i ∧ rd l i < 256 := by
  unfold rd
  rw [List.getD_eq_getElem?_getD]
  cases h : l[i.toNat]? with
  | none => simp
  | some x => exact hl x (List.mem_of_getElem? h)

theorem letter (x w : Int) (hx : 0 ≤ x) (hw : w = 4 ∨ w = 26) : 97 ≤ (97 + Int.tmod x w) % 256 ∧ (97 + Int.tmod x w) % 256 ≤ 122 := by
  rw [Int.tmod_eq_emod_of_nonneg hx]
  rcases hw with rfl | rfl <;> omega

theorem word_end (l acc : List Int) (n : Int) (hn : 0 ≤ n ∧ n ≤ 5) (ha : acc.length ≤ 5) (h : ∀ x, x ∈ acc → 97 ≤ x ∧ x ≤ 122) :
    ∃ s, (if (acc.length : Int) = 0 then (some (strOfNums (([97] : List Int)), mn (wrap64 (n + 1)) (l.length : Int))) else (some (strOfNums acc, mn (wrap64 (n + 1)) (l.length : Int)))) = some (s, mn (n + 1) (l.length : Int)) ∧ WordOk s := by
  have hw : wrap64 (n + 1) = n + 1 := by unfold wrap64; omega
  rw [hw]
  by_cases h0 : (acc.length : Int) = 0
  · rw [if_pos h0]
    exact ⟨_, rfl, word_strOf [97] (by simp) (by simp) (by simp)⟩
  · rw [if_neg h0]
    exact ⟨_, rfl, word_strOf acc (by omega) ha h⟩

theorem word_l0 (l : List Int) (hl : ∀ x, x ∈ l → 0 ≤ x ∧ x < 256) (n : Int) (hn : 0 ≤ n ∧ n ≤ 5) : ∀ (d k : Nat) (w : Int) (acc : List Int) (i : Int), (w = 4 ∨ w = 26) → 1 ≤ i → (acc.length : Int) = i - 1 → n + 1 - i = d → d < k → (∀ x, x ∈ acc → 97 ≤ x ∧ x ≤ 122) →
    ∃ s, spec_Word.l0 k l n w acc i = some (s, mn (n + 1) (l.length : Int)) ∧ WordOk s := by
  intro d
  induction d with
  | zero =>
    intro k w acc i hw h1 ha hd hk hacc
    obtain ⟨k, rfl⟩ : ∃ m, k = m + 1 := ⟨k - 1, by omega⟩
    simp only [spec_Word.l0]
    rw [if_neg (by omega)]
    exact word_end l acc n hn (by omega) hacc
  | succ d ih =>
    intro k w acc i hw h1 ha hd hk hacc
    obtain ⟨k, rfl⟩ : ∃ m, k = m + 1 := ⟨k - 1, by omega⟩
    simp only [spec_Word.l0]
    rw [if_pos (by omega)]
    by_cases hlt : i < (l.length : Int)
    · have hwr : wrap64 (i + 1) = i + 1 := by unfold wrap64; omega
      rw [if_pos hlt, if_pos (by omega), if_neg (by rcases hw with rfl | rfl <;> omega), if_pos (by omega), hwr]
      refine ih k 4 _ (i + 1) (.inl rfl) (by omega) (by simp; omega) (by omega) (by omega) ?_
      intro x hx
      rw [List.mem_append] at hx
      rcases hx with hx | hx
      · exact hacc x hx
      · simp only [List.mem_singleton] at hx
        rw [hx]
        exact letter _ _ (rd_range l hl i).1 hw
    · rw [if_neg hlt]
      exact word_end l acc n hn (by omega) hacc

theorem word_ok (l : List Int) (hl : ∀ x, x ∈ l → 0 ≤ x ∧ x < 256) (k : Nat) (hk : 8 ≤ k) : ∃ s n, spec_Word.f k l = some (s, n) ∧ WordOk s ∧ 0 ≤ n ∧ n ≤ l.length ∧ (0 < l.length → 1 ≤ n) := by
  unfold spec_Word.f
  by_cases h0 : (l.length : Int) = 0
  · rw [if_pos h0]
    exact ⟨_, _, rfl, ⟨by decide, by decide, by decide⟩, by omega, by omega, by omega⟩
  · rw [if_neg h0, if_pos (by omega)]
    obtain ⟨h1, h2⟩ := rd_range l hl 0
    have hw : wrap64 (1 + Int.tmod (wrap64 (rd l 0)) 5) = 1 + rd l 0 % 5 := by
      have : wrap64 (rd l 0) = rd l 0 := by unfold wrap64; omega
      rw [this, Int.tmod_eq_emod_of_nonneg h1]
      unfold wrap64
      omega
    rw [hw]
    obtain ⟨k, rfl⟩ : ∃ m, k = m + 1 := ⟨k - 1, by omega⟩
    have hmn : ∀ n : Int, 1 ≤ n → 0 ≤ mn (n + 1) (l.length : Int) ∧ mn (n + 1) (l.length : Int) ≤ l.length ∧ (0 < l.length → 1 ≤ mn (n + 1) (l.length : Int)) := by
      intro n hn
      unfold mn
      split <;> refine ⟨by omega, by omega, fun _ => by omega⟩
    by_cases hb : rd l 0 ≥ 192
    · rw [if_pos hb]
      simp only [spec_Word.j0]
      obtain ⟨s, hs, hok⟩ := word_l0 l hl (1 + rd l 0 % 5) (by omega) (1 + rd l 0 % 5).toNat k 26 [] 1 (.inr rfl) (by omega) (by simp) (by omega) (by omega) (by simp)
      obtain ⟨m1, m2, m3⟩ := hmn (1 + rd l 0 % 5) (by omega)
      exact ⟨s, _, hs, hok, m1, m2, m3⟩
    · rw [if_neg hb]
      simp only [spec_Word.j0]
      obtain ⟨s, hs, hok⟩ := word_l0 l hl (1 + rd l 0 % 5) (by omega) (1 + rd l 0 % 5).toNat k 4 [] 1 (.inl rfl) (by omega) (by simp) (by omega) (by omega) (by simp)
      obtain ⟨m1, m2, m3⟩ := hmn (1 + rd l 0 % 5) (by omega)
      exact ⟨s, _, hs, hok, m1, m2, m3⟩

theorem words_l0 : ∀ (d k : Nat) (l : List Int) (acc : List ByteArray), (∀ x, x ∈ l → 0 ≤ x ∧ x < 256) → l.length ≤ d → d + 8 < k → acc.length ≤ 40 → (∀ s, s ∈ acc → WordOk s) →
    ∃ r, spec_Words.l0 k l acc = some r ∧ r.length ≤ 40 ∧ ∀ s, s ∈ r → WordOk s := by
  intro d
  induction d with
  | zero =>
    intro k l acc hl hd hk ha hacc
    obtain ⟨k, rfl⟩ : ∃ m, k = m + 1 := ⟨k - 1, by omega⟩
    simp only [spec_Words.l0]
    rw [if_neg (by omega)]
    exact ⟨acc, rfl, ha, hacc⟩
  | succ d ih =>
    intro k l acc hl hd hk ha hacc
    obtain ⟨k, rfl⟩ : ∃ m, k = m + 1 := ⟨k - 1, by omega⟩
    simp only [spec_Words.l0]
    by_cases h0 : (l.length : Int) > 0
    · rw [if_pos h0]
      by_cases h40 : (acc.length : Int) < 40
      · rw [if_pos h40]
        obtain ⟨s, n, hs, hok, n0, n1, n2⟩ := word_ok l hl k (by omega)
        rw [hs]
        simp only [Option.bind_some]
        rw [if_pos (by omega), if_pos n0, if_pos n1]
        refine ih k (l.drop n.toNat) (acc ++ [s]) (fun x hx => hl x (List.mem_of_mem_drop hx)) (by rw [List.length_drop]; have := n2 (by omega); omega) (by omega) (by simp; omega) ?_
        intro x hx
        rw [List.mem_append] at hx
        rcases hx with hx | hx
        · exact hacc x hx
        · simp only [List.mem_singleton] at hx
          rw [hx]; exact hok
      · rw [if_neg h40]; exact ⟨acc, rfl, ha, hacc⟩
    · rw [if_neg h0]; exact ⟨acc, rfl, ha, hacc⟩

/-- What is put. -/
structure PutOk (ws : List ByteArray) : Prop where
  ex : ∃ r, ws = [⟨#[65]⟩, ⟨#[90]⟩] ++ r ∧ r.length ≤ 40 ∧ ∀ s, s ∈ r → WordOk s

theorem put_ok (l : List Int) (hl : ∀ x, x ∈ l → 0 ≤ x ∧ x < 256) (k : Nat) (hk : l.length + 8 < k) : ∃ ws, spec_Put.f k l = some ws ∧ PutOk ws := by
  obtain ⟨r, h1, h2, h3⟩ := words_l0 l.length k l [] hl (Nat.le_refl _) hk (by simp) (by simp)
  refine ⟨[⟨#[65]⟩, ⟨#[90]⟩] ++ r, ?_, ⟨r, rfl, h2, h3⟩⟩
  unfold spec_Put.f spec_Words.f
  rw [h1]
  simp only [Option.bind_some]
  rw [if_pos (by simp; omega)]

theorem PutOk.ws {ws : List ByteArray} (h : PutOk ws) : WS ws := by
  obtain ⟨r, rfl, h1, h2⟩ := h.ex
  refine ⟨by simp, rfl, rfl, fun s hs => ?_⟩
  rw [List.mem_append] at hs
  rcases hs with hs | hs
  · simp only [List.mem_cons, List.not_mem_nil, or_false] at hs
    rcases hs with rfl | rfl <;> exact ⟨by decide, by decide⟩
  · have := h2 s hs
    exact ⟨by have := this.1; omega, by have := this.2.1; omega⟩
theorem PutOk.max {ws : List ByteArray} (h : PutOk ws) : ws.length ≤ 42 := by
  obtain ⟨r, rfl, h1, h2⟩ := h.ex
  simp; omega

theorem node_ok (a : Int) (h : 0 ≤ a ∧ a < 256) : ∃ n : Nat, spec_Node.f a = some (n : Int) ∧ 1 ≤ n ∧ n ≤ 12 := by
  have hw : wrap64 a = a := by unfold wrap64; omega
  refine ⟨(1 + a % 12).toNat, ?_, by omega, by omega⟩
  unfold spec_Node.f
  rw [hw, Int.tmod_eq_emod_of_nonneg h.1]
  congr 1
  unfold wrap64
  omega
theorem sparse_ok (a : Int) (h : 0 ≤ a ∧ a < 256) : ∃ n : Nat, spec_Sparse.f a = some (n : Int) ∧ 1 ≤ n ∧ n ≤ 9 := by
  have hw : wrap64 a = a := by unfold wrap64; omega
  refine ⟨(1 + a % 9).toNat, ?_, by omega, by omega⟩
  unfold spec_Sparse.f
  rw [hw, Int.tmod_eq_emod_of_nonneg h.1]
  congr 1
  unfold wrap64
  omega

end Go.Proofs.Ytmdbnjepajifpaa.WsFnOrder
