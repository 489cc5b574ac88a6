/- spec.Turned, as printed: the words from behind. -/
import Derived.Test.YtmdbnjepajifpaaSlFnOrder
set_option linter.unusedVariables false
set_option linter.unusedSimpArgs false
namespace Go.Proofs.Ytmdbnjepajifpaa.WsFnOrder
open Go.RowKit Go.Proofs.YtmdbnjepajifpaaW.PrintWords Go.Proofs.YtmdbnjepajifpaaW.PrintLast Go.Proofs.YtmdbnjepajifpaaW.PrintMore Go.Proofs.Ytmdbnjepajifpaa.PFnOrder Go.Proofs.Ytmdbnjepajifpaa

theorem turned_l0 (ws : List ByteArray) (hmax : ws.length ≤ 1000) : ∀ (d k : Nat), d ≤ ws.length → d < k → spec_Turned.l0 k ws ((ws.drop d).reverse) ((d : Int) - 1) = some ws.reverse := by
  intro d
  induction d with
  | zero =>
    intro k _ hk
    obtain ⟨k, rfl⟩ : ∃ m, k = m + 1 := ⟨k - 1, by omega⟩
    simp only [spec_Turned.l0]
    rw [if_neg (by omega), List.drop_zero]
  | succ d ih =>
    intro k hd hk
    obtain ⟨k, rfl⟩ : ∃ m, k = m + 1 := ⟨k - 1, by omega⟩
    have hlt : d < ws.length := by omega
    have e : ((d + 1 : Nat) : Int) - 1 = (d : Int) := by omega
    have e2 : (ws.drop (d + 1)).reverse ++ [ws[d]] = (ws.drop d).reverse := by rw [List.drop_eq_getElem_cons hlt, List.reverse_cons]
    have e3 : wrap64 ((d : Int) - 1) = (d : Int) - 1 := by unfold wrap64; omega
    rw [e]
    simp only [spec_Turned.l0]
    rw [if_pos (by omega), if_pos (by omega), if_pos (by omega), if_pos (by rw [List.length_reverse, List.length_drop]; omega), rdOf_at _ ws d hlt, e2, e3]
    exact ih k (by omega) (by omega)

theorem turned_ok (ws : List ByteArray) (hmax : ws.length ≤ 1000) (k : Nat) (hk : ws.length < k) : spec_Turned.f k ws = some ws.reverse := by
  have h := turned_l0 ws hmax ws.length k (Nat.le_refl _) hk
  rw [List.drop_length] at h
  unfold spec_Turned.f
  have e : wrap64 ((ws.length : Int) - 1) = (ws.length : Int) - 1 := by unfold wrap64; omega
  rw [e]
  exact h

end Go.Proofs.Ytmdbnjepajifpaa.WsFnOrder
