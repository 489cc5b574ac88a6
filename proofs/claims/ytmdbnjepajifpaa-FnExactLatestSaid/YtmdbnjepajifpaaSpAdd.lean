/- add of a sparse list with room puts the child at its end. -/
import Derived.Test.YtmdbnjepajifpaaTch
namespace Go.Proofs.Ytmdbnjepajifpaa
open Go.RowKit

theorem infoPtr : (Try.prog.info? 50).map (fun i => (i.zero, i.size, i.bytes)) = some (some (.pointer none), 1, 8) := by kernel_rfl

/-- What add leaves: a list with the child besides; only the list's two blocks may have been written. -/
def AddP (w : World) (fb : Nat → UInt8) (cl : CL) (c : Nat) (e : Ending) (w' : World) : Prop :=
  ∃ cl', e = .returned cl'.val ∧ CLraw w' cl' ∧ cl'.kids.Perm (c :: cl.kids) ∧ cl'.placed fb ∧ (cl'.l = cl.l ∨ w.heap.size ≤ cl'.l) ∧ (cl'.a = cl.a ∨ w.heap.size ≤ cl'.a) ∧
    cl'.l < w'.heap.size ∧ cl'.a < w'.heap.size ∧ Tch w w' (fun k => k = cl.l ∨ k = cl.a)

theorem sp_add_post {w : World} {fb : Nat → UInt8} {l a cap c n : Nat} {ks : List Nat} (hraw : CLraw w (.sp l a cap ks)) (hroom : ks.length < cap) {W : World}
    (hW : ((w.drewN n).alloc (.cells #[ptr c] 50)).setCell ⟨a, ks.length, none⟩ (ptr c) = W) :
    AddP w fb (.sp l a cap ks) c (.returned (CL.sp l a cap (ks ++ [c])).val) (W.setCell ⟨l, 0, none⟩ (.slice (some ⟨a, 0, none⟩) (ks.length + 1) cap)) := by
  obtain ⟨hl, hcap, hc2, C, ha, hC, hk⟩ := hraw
  have hla : l ≠ a := ne_of_type hl ha (by decide)
  have hT : Tch w (W.setCell ⟨l, 0, none⟩ (.slice (some ⟨a, 0, none⟩) (ks.length + 1) cap)) (fun k => k = l ∨ k = a) := by
    rw [← hW]
    exact (((Tch.dr n).alloc _).setCell _ _ (fun _ => .inr rfl)).setCell _ _ (fun _ => .inl rfl)
  have ha' : (W.setCell ⟨l, 0, none⟩ (.slice (some ⟨a, 0, none⟩) (ks.length + 1) cap)).heap[a]? = some (.cells (C.setIfInBounds ks.length (ptr c)) 50 (0, 0)) := by
    rw [heap_set_ne (fun h => hla h.symm), ← hW]
    exact heap_set (heap_al (w := w.drewN n) ha) _
  have hl' : (W.setCell ⟨l, 0, none⟩ (.slice (some ⟨a, 0, none⟩) (ks.length + 1) cap)).heap[l]? = some (.cells #[.slice (some ⟨a, 0, none⟩) (ks.length + 1) cap] 105 (0, 0)) := by
    have h1 : W.heap[l]? = some (.cells #[.slice (some ⟨a, 0, none⟩) ks.length cap] 105 (0, 0)) := by
      rw [← hW, heap_set_ne hla]; exact heap_al (w := w.drewN n) hl
    rw [heap_set h1]; rfl
  refine ⟨.sp l a cap (ks ++ [c]), rfl, ⟨by rw [List.length_append]; exact hl', by rw [List.length_append]; simp; omega, hc2, _, ha', by simp [hC], ?_⟩, ?_, trivial, .inl rfl, .inl rfl, lt_of_heap hl', lt_of_heap ha', hT⟩
  · intro i x hx
    by_cases hi : i < ks.length
    · rw [List.getElem?_append_left hi] at hx
      rw [Array.getElem?_setIfInBounds_ne (by omega)]
      exact hk i x hx
    · rw [List.getElem?_append_right (by omega)] at hx
      have : i = ks.length := by
        rcases Nat.lt_or_ge (i - ks.length) 1 with h | h
        · omega
        · rw [List.getElem?_eq_none (by simpa using h)] at hx; cases hx
      subst this
      simp at hx
      subst hx
      rw [Array.getElem?_setIfInBounds_self]
      rw [if_pos (by omega)]
  · exact List.perm_append_comm

set_option maxHeartbeats 1600000 in
theorem sp_add_room (w : World) (fb : Nat → UInt8) (l a cap : Nat) (ks : List Nat) (c : Nat) (hraw : CLraw w (.sp l a cap ks)) (hroom : ks.length < cap) :
    Calls Try.prog 112 #[ptr l, ptr c] w (AddP w fb (.sp l a cap ks) c) := by
  obtain ⟨hl, hcap, hc2, C, ha, hC, hk⟩ := hraw
  obtain ⟨i0, hi, hz0, hz1, hz2⟩ := info_parts infoPtr
  have c0 : w.cell? ⟨l, 0, none⟩ = some (.slice (some ⟨a, 0, none⟩) ks.length cap) := by rw [cell_of_block hl]; rfl
  have f0 := free_of_block hl 0
  have g1 : ((ks.length : Int) != (cap : Int)) = true := by rw [bne_iff_ne]; omega
  have hla : l ≠ a := ne_of_type hl ha (by decide)
  have HL := Lib.hid hl
  have HA := Lib.hid ha
  have HKs := Lib.hid hk
  have HC := Lib.hid hC
  have HR : Hid (CLraw w (.sp l a cap ks)) := (⟨hl, hcap, hc2, C, ha, hC, hk⟩ : CLraw w (.sp l a cap ks))
  clear hl ha hk hC
  go_enter Try.func112, Try.ntmps112
  go_wp2_with fail
  go_quiet (fail)
  go_wp2_with (at_builtin; refine wpList_append_arg _ rfl _ _ 103 rfl 50 i0 (.pointer none) 1 8 Try.underlying103 hi hz0 hz1 hz2 rfl (by decide) a 0 ks.length cap (ks.map ptr) rfl (by simp) ?c1 ⟨w.heap.size, 0, none⟩ 1 1 [ptr c] rfl rfl ?c2 ?c3 ?c4 ?c5 ?c6 ?c7 ?c8)
  case c1 =>
    intro j u hj
    simp only [List.getElem?_map, Option.map_eq_some_iff] at hj
    obtain ⟨x, hx, rfl⟩ := hj
    rw [cell_of_block (heap_al (w := w.drewN nq) HA.out), Nat.zero_add]
    exact HKs.out j x hx
  case c2 =>
    intro j u hj
    match j, hj with
    | 0, hj => simp at hj; subst hj; rw [Addr.add]; exact cell_of_block (heap_new (w.drewN nq) _) 0
  case c3 => intro u hu; simp at hu; subst hu; rfl
  case c4 =>
    intro _ j hj
    simp at hj
    subst hj
    have hC2 := HC.out
    constructor
    · rw [cell_of_block (heap_al (w := w.drewN nq) HA.out), Array.getElem?_eq_getElem (by omega)]; rfl
    · exact free_of_block (heap_al (w := w.drewN nq) HA.out) _
  case c5 => unfold maxLen; omega
  case c6 => omega
  case c8 => intro h; omega
  case c7 =>
    intro _
    simp only [World.setCells]
    have f1 : (((w.drewN nq).alloc (.cells #[ptr c] 50)).setCell ⟨a, ks.length, none⟩ (ptr c)).frozen? ⟨l, 0, none⟩ = false := by
      rw [World.frozen?_setCell]; exact free_of_block (heap_al (w := w.drewN nq) HL.out) 0
    have f2 : (((w.drewN nq).alloc (.cells #[ptr c] 50)).setCell ⟨a, ks.length, none⟩ (ptr c)).cell? ⟨l, 0, none⟩ = some (.slice (some ⟨a, 0, none⟩) ks.length cap) := by
      rw [World.cell?_setCell_other _ _ _ _ (by intro h; injection h with h; exact hla h.symm)]; rw [cell_of_block (heap_al (w := w.drewN nq) HL.out)]; rfl
    generalize hW : ((w.drewN nq).alloc (.cells #[ptr c] 50)).setCell ⟨a, ks.length, none⟩ (ptr c) = W at f1 f2 ⊢
    have HW := Lib.hid hW
    clear hW c0 f0
    go_wp2_with fail
    go_ret
    exact sp_add_post HR.out hroom HW.out

end Go.Proofs.Ytmdbnjepajifpaa
