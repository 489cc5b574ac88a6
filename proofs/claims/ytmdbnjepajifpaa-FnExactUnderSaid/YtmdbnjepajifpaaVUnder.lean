/- A visitor: impl.Under$1. -/
import Derived.Test.YtmdbnjepajifpaaC8
set_option linter.unusedVariables false
set_option linter.unusedSimpArgs false
namespace Go.Proofs.Ytmdbnjepajifpaa
open Go.RowKit Go.Proofs.YtmdbnjepajifpaaW.PrintWords Go.Proofs.YtmdbnjepajifpaaW.PrintLast Go.Proofs.YtmdbnjepajifpaaW.PrintMore

set_option maxRecDepth 100000 in
set_option maxHeartbeats 1600000 in
theorem vUnder_call (bo base : Nat) (bad : Nat → Prop) (acc : List Wd) (w : World) (K : Wd) (b o c : Nat) (it : Value) (hV : VS bo base bad acc w) (hK : KS w b o K) (hl : K.length ≤ 1000) (hacc : acc.length ≤ 1000) (hbad : ∀ k, bad k → k < w.heap.size) (hbase : base ≤ w.heap.size) :
    Calls Try.prog 58 #[.slice (some ⟨b, o, none⟩) K.length c, it, ptr bo] w (VisP bo base bad acc K .nilIface w) := by
  have hcv := bytes_run hK (c := c) (by omega)
  obtain ⟨v, hv, hR, hb⟩ := hV
  have c0 : w.cell? ⟨bo, 0, none⟩ = some v := by rw [cell_of_block hv]; rfl
  have hfr : ∀ k, w.heap.size ≤ k → ¬ bad k ∧ k ≠ bo := fun k hk => ⟨fun h => by have := hbad k h; omega, fun h => by have := lt_of_heap hv; omega⟩
  have hlen : ((acc.map strB).length + 1) * 16 ≤ 140737488355328 := by rw [List.length_map]; omega
  have HQ := Lib.hid (⟨hv, hR, hb, hfr, hlen, Below.refl base w⟩ : _ ∧ _ ∧ _ ∧ _ ∧ _ ∧ _)
  clear hK hv hR hb hbad hfr hlen
  go_enter Try.func58, Try.ntmps58
  go_wp2_with (first | ((with_reducible refine gate_builtin (b := .append) (xs := #[.tmp 6, .tmp 9]) rfl ?_); at_builtin; go_loud (refine Kd.R_append Kd.string (w0 := w) base rfl (.tmp 6) (.tmp 9) 23 9 (.string ByteArray.empty) 16 rfl Try.underlying23 infoStr rfl (by decide) (by omega) v (acc.map strB) (strB K) [.string (strB K)] (fun k => ¬ bad k ∧ k ≠ bo) (fun _ => False) rfl rfl rfl (fun _ hk => hk.elim) HQ.out.2.2.2.1 HQ.out.2.1 HQ.out.2.2.2.2.2 hbase HQ.out.2.2.2.2.1 ?_); intro v1 w3 r1 r2 r3 r4; obtain ⟨A1, c1, e1⟩ := Kd.R_slice r1; subst e1; have hp := vis_post HQ.out.1 HQ.out.2.2.1 HQ.out.2.1 hbase r1 r3; have d0 : w3.cell? ⟨bo, 0, none⟩ = some v := (by rw [cell_of_block hp.1]; rfl); have d1 := free_of_block hp.1 0; have HP := Lib.hid hp; clear hp r1 r2 r3 r4))
  go_ret
  have h := HP.out.2
  simp only [List.length_append, List.length_map, List.length_cons, List.length_nil] at h
  exact ⟨rfl, h⟩

end Go.Proofs.Ytmdbnjepajifpaa
