/- Rows of words in memory: small facts that several texts share. -/
import Derived.Test.YtmdbnjepajifpaaC4
namespace Go.Proofs.Ytmdbnjepajifpaa
open Go.RowKit

theorem Row.slice' {w0 : World} {v : Value} {gs : List ByteArray} (R : Row w0 v gs) : ∃ (g : Option Addr) (c : Nat), v = .slice g gs.length c ∧ ∀ w1, Tch w0 w1 (fun _ => False) → ∀ i s, gs[i]? = some s → ∃ b, g = some ⟨b, 0, none⟩ ∧ w1.cell? ⟨b, i, none⟩ = some (.string s) := by
  rcases R with ⟨rfl, rfl⟩ | ⟨b, c, rfl, h1, h2, h3⟩
  · exact ⟨none, 0, rfl, fun _ _ i s h => by simp at h⟩
  · exact ⟨_, c, rfl, fun w1 hT i s h => ⟨b, rfl, by rw [World.cell?_of_block (hT.keep b h1 (fun h => h))]; exact h3 i s h⟩⟩

theorem infoStr : (Try.prog.info? 9).map (fun i => (i.zero, i.size, i.bytes)) = some (some (.string ByteArray.empty), 1, 16) := by kernel_rfl

end Go.Proofs.Ytmdbnjepajifpaa
