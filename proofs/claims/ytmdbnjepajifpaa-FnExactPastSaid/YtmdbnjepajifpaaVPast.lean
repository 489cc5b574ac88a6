/- A visitor: impl.Past$1. -/
import Derived.Test.YtmdbnjepajifpaaC8
import Derived.Test.YtmdbnjepajifpaaC6
set_option linter.unusedVariables false
set_option linter.unusedSimpArgs false
namespace Go.Proofs.Ytmdbnjepajifpaa
open Go.RowKit Go.Proofs.YtmdbnjepajifpaaW.PrintWords Go.Proofs.YtmdbnjepajifpaaW.PrintLast Go.Proofs.YtmdbnjepajifpaaW.PrintMore

theorem strB_eq {s : ByteArray} {K : Wd} : strB K = s ↔ K = keyOf s := by
  constructor
  · rintro rfl; rw [key_strB]
  · rintro rfl; exact strB_key s

set_option maxRecDepth 100000 in
set_option maxHeartbeats 1600000 in
theorem vPast_call (bo kx base : Nat) (s : ByteArray) (bad : Nat → Prop) (acc : List Wd) (w : World) (K : Wd) (b o c : Nat) (it : Value) (hV : VS bo base bad acc w) (hkx : w.heap[kx]? = some (.cells #[.string s] 9 (0, 0))) (hkb : bad kx) (hK : KS w b o K) (hbb : bad b) (hl : K.length ≤ 1000) (hacc : acc.length ≤ 1000) (hbad : ∀ k, bad k → k < w.heap.size) (hbase : base ≤ w.heap.size) :
    Calls Try.prog 56 #[.slice (some ⟨b, o, none⟩) K.length c, it, ptr bo, ptr kx] w (VisP bo base bad acc K (errV (decide (K = keyOf s))) w) := by
  have hcv := bytes_run hK (c := c) (by omega)
  obtain ⟨v, hv, hR, hb⟩ := hV
  have c0 : w.cell? ⟨bo, 0, none⟩ = some v := by rw [cell_of_block hv]; rfl
  have hfr : ∀ k, w.heap.size ≤ k → ¬ bad k ∧ k ≠ bo := fun k hk => ⟨fun h => by have := hbad k h; omega, fun h => by have := lt_of_heap hv; omega⟩
  have hlen : ((acc.map strB).length + 1) * 16 ≤ 140737488355328 := by rw [List.length_map]; omega
  have HQ := Lib.hid (⟨hv, hR, hb, hfr, hlen, Below.refl base w⟩ : _ ∧ _ ∧ _ ∧ _ ∧ _ ∧ _)
  have HK := Lib.hid (⟨hK, hkx, hkb, hbb⟩ : _ ∧ _ ∧ _ ∧ _)
  clear hK hv hR hb hbad hfr hlen hkx hkb hbb
  go_enter Try.func56, Try.ntmps56
  go_wp2_with (first | ((with_reducible refine gate_builtin (b := .append) (xs := #[.tmp 7, .tmp 10]) rfl ?_); at_builtin; go_loud (refine Kd.R_append Kd.string (w0 := w) base rfl (.tmp 7) (.tmp 10) 23 9 (.string ByteArray.empty) 16 rfl Try.underlying23 infoStr rfl (by decide) (by omega) v (acc.map strB) (strB K) [.string (strB K)] (fun k => ¬ bad k ∧ k ≠ bo) (fun _ => False) rfl rfl rfl (fun _ hk => hk.elim) HQ.out.2.2.2.1 HQ.out.2.1 HQ.out.2.2.2.2.2 hbase HQ.out.2.2.2.2.1 ?_); intro v1 w3 r1 r2 r3 r4; obtain ⟨A1, c1, e1⟩ := Kd.R_slice r1; subst e1; have hp := vis_post HQ.out.1 HQ.out.2.2.1 HQ.out.2.1 hbase r1 r3; rw [show ((acc.map strB) ++ [strB K]).length = acc.length + 1 by simp] at hp; have d0 : w3.cell? ⟨bo, 0, none⟩ = some v := (by rw [cell_of_block hp.1]; rfl); have d1 := free_of_block hp.1 0; have d2 := bytes_run (c := c) (KS.keep HK.out.1 hp.2.2 (fun h => h.1 HK.out.2.2.2)) (by omega); have d3 : World.cell? _ ⟨kx, 0, none⟩ = some (.string s) := cell_of_block ((hp.2.2.keep kx (lt_of_heap HK.out.2.1) (fun h => h.1 HK.out.2.2.1)).trans HK.out.2.1) 0; have HP := Lib.hid hp; clear hp r1 r2 r3 r4))
  · rename_i h
    go_ret
    have h1 : (strB K).toList = s.toList := by simpa using h
    rw [ByteArray.toList_eq, ByteArray.toList_eq] at h1
    rw [decide_eq_true (show K = keyOf s by rw [← key_strB K]; exact h1)]
    exact ⟨rfl, HP.out.2⟩
  · rename_i h
    go_ret
    rw [decide_eq_false (fun e => by rw [strB_eq.2 e] at h; simp at h)]
    exact ⟨rfl, HP.out.2⟩

end Go.Proofs.Ytmdbnjepajifpaa
