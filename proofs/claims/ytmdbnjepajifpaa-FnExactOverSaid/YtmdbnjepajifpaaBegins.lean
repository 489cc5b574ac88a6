/- spec.Begins reports whether a text begins with another one. -/
import Derived.Test.YtmdbnjepajifpaaOrd
import Derived.Test.YtmdbnjepajifpaaGen
import Derived.WalkLawsBesides
namespace Go.Proofs.Ytmdbnjepajifpaa
open Go.RowKit

theorem begins_iff (s p : ByteArray) (_h : p.size ≤ s.size) : (s.extract 0 p.size = p) ↔ keyOf p <+: keyOf s := by
  have e : keyOf (s.extract 0 p.size) = (keyOf s).take p.size := by unfold keyOf; simp
  constructor
  · intro h1
    rw [← h1, e]
    exact List.take_prefix _ _
  · intro h1
    apply keyOf_inj
    rw [e]
    have := List.prefix_iff_eq_take.1 h1
    rw [keyOf_len] at this
    exact this.symm

open Classical in
noncomputable def begB (s p : ByteArray) : Bool := decide (keyOf p <+: keyOf s)

set_option maxHeartbeats 800000 in
theorem begins_any (w : World) (s p : ByteArray) (_hs : s.size ≤ 1000000) (_hp : p.size ≤ 1000000) : Calls Try.prog 50 #[.string s, .string p] w (fun e w' => e = .returned (.bool (begB s p)) ∧ w' = w) := by
  by_cases h : p.size ≤ s.size
  · have hb : begB s p = ((s.extract 0 p.size).toList == p.toList) := by
      rw [Bool.eq_iff_iff, beq_iff_eq, key_eq]
      unfold begB
      rw [decide_eq_true_iff]
      constructor
      · intro h1; rw [(begins_iff s p h).2 h1]
      · intro h1; exact (begins_iff s p h).1 (keyOf_inj h1)
    have HB := Lib.hid hb
    clear hb
    have h' : (p.size : Int) ≤ (s.size : Int) := by omega
    go_enter Try.func50, Try.ntmps50
    go_wp2_with fail
    go_ret
    exact ⟨by rw [HB.out]; rfl, rfl⟩
  · have hb : begB s p = false := by
      unfold begB
      apply decide_eq_false
      intro h1
      have := h1.length_le
      rw [keyOf_len, keyOf_len] at this
      omega
    have HB := Lib.hid hb
    clear hb
    have h' : ¬ (p.size : Int) ≤ (s.size : Int) := by omega
    go_enter Try.func50, Try.ntmps50
    go_wp2_with fail
    go_ret
    exact ⟨by rw [HB.out]; rfl, rfl⟩

end Go.Proofs.Ytmdbnjepajifpaa
