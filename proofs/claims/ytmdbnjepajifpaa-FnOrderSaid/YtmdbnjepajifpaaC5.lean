/- Tries in memory, part C5. Lemmas; no statement of their own. -/
import Derived.Test.YtmdbnjepajifpaaC2
import Derived.RegionTactic
import Derived.Test.YtmdbnjepajifpaaC3
import Derived.Test.YtmdbnjepajifpaaC4
import Derived.Test.YtmdbnjepajifpaaWMore
import Derived.ScopeJumps
import Derived.Lib.Builder

/- remove and replace of a list of children, sparse or dense. -/
set_option linter.unusedVariables false
set_option linter.unusedSimpArgs false
namespace Go.Proofs.Ytmdbnjepajifpaa
open Go.RowKit

/-- What remove leaves: the list without x; only the list's two blocks may have been written. -/
def RemP (w : World) (fb : Nat → UInt8) (cl : CL) (x : Nat) (e : Ending) (w' : World) : Prop :=
  ∃ cl', e = .returned (.tuple #[]) ∧ CLraw w' cl' ∧ cl.kids.Perm (x :: cl'.kids) ∧ cl'.placed fb ∧ cl'.l = cl.l ∧ cl'.a = cl.a ∧ cl'.val = cl.val ∧ Tch w w' (fun k => k = cl.l ∨ k = cl.a)

theorem split_at {α : Type} {l : List α} {j : Nat} {x : α} (h : l[j]? = some x) : l = l.take j ++ x :: l.drop (j + 1) ∧ (l.take j).length = j := by
  obtain ⟨hj, rfl⟩ := List.getElem?_eq_some_iff.1 h
  refine ⟨?_, by rw [List.length_take]; omega⟩
  rw [← List.drop_eq_getElem_cons hj, List.take_append_drop]

theorem set_at {α : Type} (A B : List α) (x y : α) : (A ++ x :: B).set A.length y = A ++ y :: B := by simp

theorem ks_remove {l : List Nat} {j x y : Nat} (h : l[j]? = some x) (hy : l[l.length - 1]? = some y) : l.Perm (x :: (l.set j y).dropLast) := by
  obtain ⟨h1, h2⟩ := split_at h
  obtain ⟨A, hA⟩ : ∃ A, l.take j = A := ⟨_, rfl⟩
  obtain ⟨B, hB⟩ : ∃ B, l.drop (j + 1) = B := ⟨_, rfl⟩
  rw [hA, hB] at h1
  rw [hA] at h2
  subst h1
  subst h2
  rw [set_at]
  rcases List.eq_nil_or_concat B with rfl | ⟨C, z, rfl⟩
  · rw [List.dropLast_concat]
    exact List.perm_append_comm
  · have hz : z = y := by
      rw [show (A ++ x :: C.concat z).length - 1 = A.length + (C.length + 1) by simp] at hy
      rw [List.getElem?_append_right (by omega)] at hy
      simp at hy
      exact hy
    subst hz
    have e : (A ++ z :: C.concat z).dropLast = A ++ z :: C := by
      rw [List.concat_eq_append]
      have : A ++ z :: (C ++ [z]) = (A ++ z :: C) ++ [z] := by simp
      rw [this, List.dropLast_concat]
    rw [e, List.concat_eq_append]
    have p1 : (A ++ x :: (C ++ [z])).Perm (x :: (A ++ (C ++ [z]))) := List.perm_middle
    refine p1.trans (List.Perm.cons x ?_)
    have p2 : (A ++ z :: C).Perm (A ++ (C ++ [z])) := List.Perm.append_left A (by simpa using (List.perm_append_comm (l₁ := [z]) (l₂ := C)))
    exact p2.symm

/-- The world behind the stores of a sparse list's remove. -/
theorem sp_rem_post {w W : World} {fb : Nat → UInt8} {l a cap j x y n : Nat} {ks : List Nat} (hraw : CLraw w (.sp l a cap ks)) (hj : ks[j]? = some x) (hy : ks[ks.length - 1]? = some y) (hn : n = ks.length - 1)
    (hW : W.heap = (((w.setCell ⟨a, j, none⟩ (ptr y)).setCell ⟨a, n, none⟩ (.pointer none)).setCell ⟨l, 0, none⟩ (.slice (some ⟨a, 0, none⟩) n cap)).heap) (hm : W.os = w.os ∧ W.tape = w.tape ∧ W.output = w.output) :
    RemP w fb (.sp l a cap ks) x (.returned (.tuple #[])) W := by
  subst hn
  obtain ⟨hl, hcap, hc2, C, ha, hC, hk⟩ := hraw
  have hla : l ≠ a := ne_of_type hl ha (by decide)
  have hjl := (List.getElem?_eq_some_iff.1 hj).1
  have hd : ((ks.set j y).dropLast).length = ks.length - 1 := by simp
  have ha' : W.heap[a]? = some (.cells ((C.setIfInBounds j (ptr y)).setIfInBounds (ks.length - 1) (.pointer none)) 50 (0, 0)) := by
    rw [hW, heap_set_ne hla.symm]
    exact heap_set (heap_set ha _) _
  have hl' : W.heap[l]? = some (.cells #[.slice (some ⟨a, 0, none⟩) (ks.length - 1) cap] 105 (0, 0)) := by
    rw [hW, heap_set (i := 0) (C := #[.slice (some ⟨a, 0, none⟩) ks.length cap]) (by rw [heap_set_ne hla, heap_set_ne hla]; exact hl)]
    rfl
  refine ⟨.sp l a cap ((ks.set j y).dropLast), rfl, ⟨by rw [hd]; exact hl', by rw [hd]; omega, hc2, _, ha', by simp [hC], ?_⟩, ks_remove hj hy, trivial, rfl, rfl, rfl, ?_⟩
  · intro i c hi
    have hil := (List.getElem?_eq_some_iff.1 hi).1
    rw [hd] at hil
    rw [Array.getElem?_setIfInBounds_ne (by omega)]
    rw [List.getElem?_dropLast] at hi
    rw [if_pos (by simp; omega)] at hi
    by_cases e : i = j
    · subst e
      rw [List.getElem?_set_self (by omega)] at hi
      injection hi with hi
      subst hi
      rw [Array.getElem?_setIfInBounds_self, if_pos (by omega)]
    · rw [List.getElem?_set_ne (fun h => e h.symm)] at hi
      rw [Array.getElem?_setIfInBounds_ne (fun h => e h.symm)]
      exact hk i c hi
  · refine ⟨hm.1, hm.2.1, hm.2.2, by rw [hW]; simp, fun k _ hk => ?_⟩
    have h1 : k ≠ l := fun h => hk (.inl h)
    have h2 : k ≠ a := fun h => hk (.inr h)
    rw [hW, heap_set_ne h1, heap_set_ne h2, heap_set_ne h2]

set_option maxRecDepth 100000 in
set_option maxHeartbeats 3200000 in
theorem sp_rem (w : World) (fb : Nat → UInt8) (l a cap : Nat) (ks : List Nat) (b : UInt8) (x : Nat) (hraw : CLraw w (.sp l a cap ks)) (hkb : KB w fb (.sp l a cap ks)) (hx : x ∈ ks) (hb : fb x = b) :
    Calls Try.prog 117 #[ptr l, .int .u8 (b.toNat : Int)] w (RemP w fb (.sp l a cap ks) x) := by
  have HR := Lib.hid hraw
  have HKB := Lib.hid hkb
  obtain ⟨hl, hcap, hc2, C, ha, hC, hk⟩ := hraw
  have c0 : w.cell? ⟨l, 0, none⟩ = some (.slice (some ⟨a, 0, none⟩) ks.length cap) := by rw [cell_of_block hl]; rfl
  have f0 := free_of_block hl 0
  have hla : ¬ l = a := ne_of_type hl ha (by decide)
  have hal : ¬ a = l := fun h => hla h.symm
  have hcells : ∀ (i c : Nat), ks[i]? = some c → w.cell? ⟨a, i, none⟩ = some (ptr c) := fun i c h => by rw [cell_of_block ha]; exact hk i c h
  have HC := Lib.hid hcells
  have hfr : ∀ i, w.frozen? ⟨a, i, none⟩ = false := fun i => free_of_block ha i
  have HF := Lib.hid hfr
  have hcl : ks.length ≤ 1000 := by omega
  obtain ⟨j, hj⟩ := List.mem_iff_getElem?.1 hx
  have hjl := (List.getElem?_eq_some_iff.1 hj).1
  have HJ := Lib.hid hj
  have HB := Lib.hid hb
  have HL := Lib.hid hl
  have HA := Lib.hid ha
  have HCS := Lib.hid hC
  clear hl ha hC hk hcells hkb hfr hj hb
  go_enter Try.func117, Try.ntmps117
  go_wp2_with fail
  go_loop [11] (fun i => ∃ k : Nat, k ≤ j ∧ i = .int .i64 k) (fun i => ks.length - (intOf i).toNat)
  case atStart => exact ⟨0, Nat.zero_le _, rfl⟩
  case round =>
    obtain ⟨k, hkj, rfl⟩ := hrel
    have h1 : k < ks.length := by omega
    obtain ⟨c, hc⟩ : ∃ c, ks[k]? = some c := ⟨ks[k], by simp [h1]⟩
    have c1 := HC.out k c hc
    obtain ⟨sb, so, n, cp, c2, hn, c3⟩ := HKB.out.rd c (List.mem_of_getElem? hc)
    have g1 : (k : Int) < (ks.length : Int) := by omega
    by_cases h3 : k = j
    · subst h3
      obtain ⟨y, hy⟩ : ∃ y, ks[ks.length - 1]? = some y := ⟨ks[ks.length - 1], by rw [List.getElem?_eq_getElem]⟩
      have hcx : c = x := by have := HJ.out; rw [hc] at this; injection this
      subst hcx
      have h4 : (((fb c).toNat : Int) == (b.toNat : Int)) = true := by simp [HB.out]
      have d1 := HC.out _ y hy
      have e1 : IntKind.i64.wrap ((ks.length : Int) - 1) = ((ks.length - 1 : Nat) : Int) := by rw [IntWalk.i64_in _ (by omega)]; omega
      have e0 : ((ks.length : Int) - 1) = ((ks.length - 1 : Nat) : Int) := by omega
      have fa := HF.out k
      have fn := HF.out (ks.length - 1)
      have HY := Lib.hid hy
      have HCc := Lib.hid hc
      clear hy hc
      obtain ⟨m, hm⟩ : ∃ m, ks.length - 1 = m := ⟨_, rfl⟩
      rw [hm] at d1 fn e1 e0
      have HM := Lib.hid hm
      have hm1 : m < ks.length := by omega
      have hkm : k ≤ m := by omega
      clear hm
      go_wp2_with fail
      go_region
      have hA1 : (w.setCell ⟨a, k, none⟩ (.pointer (some ⟨y, 0, none⟩))).drew.heap[a]? = some (.cells (C.setIfInBounds k (ptr y)) 50 (0, 0)) := heap_set HA.out _
      have hL1 : (w.setCell ⟨a, k, none⟩ (.pointer (some ⟨y, 0, none⟩))).drew.heap[l]? = some (.cells #[.slice (some ⟨a, 0, none⟩) ks.length cap] 105 (0, 0)) := (heap_set_ne (w := w) hla _).trans HL.out
      obtain ⟨W1, hW1⟩ : ∃ W1, (w.setCell ⟨a, k, none⟩ (.pointer (some ⟨y, 0, none⟩))).drew = W1 := ⟨_, rfl⟩
      rw [hW1] at hA1 hL1 ⊢
      have c01 : W1.cell? ⟨l, 0, none⟩ = some (.slice (some ⟨a, 0, none⟩) ks.length cap) := by rw [cell_of_block hL1]; rfl
      obtain ⟨v1, d11⟩ : ∃ v, W1.cell? ⟨a, m, none⟩ = some v := by
        rw [cell_of_block hA1, Array.getElem?_eq_getElem (by have := HCS.out; simp; omega)]; exact ⟨_, rfl⟩
      have f11 := free_of_block hA1 m
      have HW1 := Lib.hid hW1
      have HL1 := Lib.hid hL1
      clear hW1 hA1 hL1 c0 d1 fa fn f0 c1 c2 c3
      go_wp2_with fail
      go_region
      have hL2 : (W1.setCell ⟨a, m, none⟩ (.pointer none)).drew.heap[l]? = some (.cells #[.slice (some ⟨a, 0, none⟩) ks.length cap] 105 (0, 0)) := (heap_set_ne (w := W1) hla _).trans HL1.out
      obtain ⟨W2, hW2⟩ : ∃ W2, (W1.setCell ⟨a, m, none⟩ (.pointer none)).drew = W2 := ⟨_, rfl⟩
      rw [hW2] at hL2 ⊢
      have c02 : W2.cell? ⟨l, 0, none⟩ = some (.slice (some ⟨a, 0, none⟩) ks.length cap) := by rw [cell_of_block hL2]; rfl
      have f12 := free_of_block hL2 0
      have HW2 := Lib.hid hW2
      clear hW2 hL2 c01 d11 f11
      go_wp2_with fail
      go_region
      go_wp2_with fail
      refine bodyPost_end (results_none rfl _ _ _) rfl ?_
      have h1 : W2.heap = ((w.setCell ⟨a, k, none⟩ (.pointer (some ⟨y, 0, none⟩))).setCell ⟨a, m, none⟩ (.pointer none)).heap := by
        rw [← HW2.out, ← HW1.out]; rfl
      exact sp_rem_post HR.out HJ.out HY.out HM.out.symm (by simp only [World.setCell] at h1 ⊢; simp only [World.drew, h1]) (by rw [← HW2.out, ← HW1.out]; exact ⟨rfl, rfl, rfl⟩)
    · have hcx : c ≠ x := fun e => by
        subst e
        have := HKB.out.nodup
        exact h3 ((List.getElem?_inj h1 this).1 (hc.trans HJ.out.symm))
      have h4 : (((fb c).toNat : Int) == (b.toNat : Int)) = false := by
        rw [beq_eq_false_iff_ne]
        intro h
        have h5 : fb c = fb x := by rw [HB.out]; exact UInt8.toNat_inj.1 (by omega)
        exact hcx (HKB.out.ne c x (List.mem_of_getElem? hc) hx h5)
      clear hc
      go_wp2_with fail
      go_round
      case rel => exact ⟨k + 1, by omega, by go_num⟩
      case measure => simp [intOf]; omega

theorem dn_rem_perm {arr : List (Option Nat)} {i x : Nat} (h : arr[i]? = some (some x)) : (arr.filterMap id).Perm (x :: (arr.set i none).filterMap id) := by
  have hi := (List.getElem?_eq_some_iff.1 h).1
  have h0 : (arr.set i none)[i]? = some none := by rw [List.getElem?_set_self hi]
  have h1 := filter_set h0 (x := x)
  have h2 : (arr.set i none).set i (some x) = arr := by
    rw [List.set_set]
    obtain ⟨_, e⟩ := List.getElem?_eq_some_iff.1 h
    rw [← e, List.set_getElem_self]
  rw [h2] at h1
  exact h1

theorem arrV_none (A : List (Option Nat)) (i : Nat) : (arrV A).setIfInBounds i (.pointer none) = arrV (A.set i none) := by simp [arrV, List.map_set]

theorem dn_rem_post {w W : World} {fb : Nat → UInt8} {l a mn hi hi' i x : Nat} {mx nc : Int} {arr : List (Option Nat)} (hraw : CLraw w (.dn l a mn hi arr)) (hp : (CL.dn l a mn hi arr).placed fb) (hi0 : arr[i]? = some (some x))
    (hl : W.heap[l]? = some (dnObj mn mx nc hi' a arr.length)) (ha : W.heap[a]? = some (.cells (arrV (arr.set i none)) 50 (0, 0))) (hmx : mx = (mn : Int) + arr.length - 1) (hnc : nc = ((arr.filterMap id).length : Int) - 1) (hh : hi' < arr.length)
    (hno : ∀ j, j < hi' → (arr.set i none)[j]? = some none) (hT : Tch w W (fun k => k = l ∨ k = a)) : RemP w fb (.dn l a mn hi arr) x (.returned (.tuple #[])) W := by
  have hperm := dn_rem_perm hi0
  have hlen := hperm.length_eq
  rw [List.length_cons] at hlen
  subst hmx hnc
  refine ⟨.dn l a mn hi' (arr.set i none), rfl, ⟨?_, by rw [List.length_set]; exact hraw.2.1, by rw [List.length_set]; exact hh, hno, ha⟩, hperm, ?_, rfl, rfl, rfl, hT⟩
  · rw [hl, List.length_set]
    have : ((arr.filterMap id).length : Int) - 1 = (((arr.set i none).filterMap id).length : Int) := by omega
    rw [this]; rfl
  · intro j c hc
    rw [List.getElem?_set] at hc
    split at hc
    · split at hc
      · cases hc
      · cases hc
    · exact hp j c hc

set_option maxRecDepth 100000 in
set_option maxHeartbeats 3200000 in
theorem dn_rem (w : World) (fb : Nat → UInt8) (l a mn hi : Nat) (arr : List (Option Nat)) (b : UInt8) (x : Nat) (hraw : CLraw w (.dn l a mn hi arr)) (hp : (CL.dn l a mn hi arr).placed fb) (hx : x ∈ arr.filterMap id) (hb : fb x = b) :
    Calls Try.prog 149 #[ptr l, .int .u8 (b.toNat : Int)] w (RemP w fb (.dn l a mn hi arr) x) := by
  have HR := Lib.hid hraw
  have HP := Lib.hid hp
  simp only [List.mem_filterMap, id] at hx
  obtain ⟨y, hy, rfl⟩ := hx
  obtain ⟨i, hi0⟩ := List.mem_iff_getElem?.1 hy
  have hil := (List.getElem?_eq_some_iff.1 hi0).1
  have hbi := hp i x hi0
  rw [hb] at hbi
  obtain ⟨hl, hcap, hhi, hnone, ha⟩ := hraw
  have hl : w.heap[l]? = some (dnObj mn ((mn : Int) + arr.length - 1) ((arr.filterMap id).length : Int) hi a arr.length) := hl
  have ha : w.heap[a]? = some (.cells (arrV arr) 50 (0, 0)) := ha
  have hla : l ≠ a := ne_of_type hl ha (by decide)
  have hihi : hi ≤ i := by
    rcases Nat.lt_or_ge i hi with h | h
    · have := hnone i h; rw [hi0] at this; cases this
    · exact h
  obtain ⟨c0, c1, c2, c3, c4, f⟩ := dn_cells hl
  have f2 := f 2
  have d0 : w.cell? ⟨a, i, none⟩ = some (.pointer (some ⟨x, 0, none⟩)) := by rw [cell_of_block ha, arrV_get, hi0]; rfl
  have fa := free_of_block ha i
  have hpos : 1 ≤ (arr.filterMap id).length := by have := (dn_rem_perm hi0).length_eq; simp at this; omega
  have hlea : (arr.filterMap id).length ≤ arr.length := List.length_filterMap_le _ _
  have e1 : IntKind.i64.wrap ((b.toNat : Int) - (mn : Int)) = (i : Int) := by rw [IntWalk.i64_in _ (by omega)]; omega
  have e2 : (b.toNat : Int) - (mn : Int) = (i : Int) := by omega
  have g0 : (i : Int) < (arr.length : Int) := by omega
  have hal : ¬ a = l := fun h => hla h.symm
  have hlW : ((w.setCell ⟨l, 2, none⟩ (.int .i64 (((arr.filterMap id).length : Int) - 1))).setCell ⟨a, i, none⟩ (.pointer none)).heap[l]? = some (dnObj mn ((mn : Int) + arr.length - 1) (((arr.filterMap id).length : Int) - 1) hi a arr.length) := by
    rw [heap_set_ne hla]; exact dn_set2 hl _
  have haW : ((w.setCell ⟨l, 2, none⟩ (.int .i64 (((arr.filterMap id).length : Int) - 1))).setCell ⟨a, i, none⟩ (.pointer none)).heap[a]? = some (.cells (arrV (arr.set i none)) 50 (0, 0)) := by
    rw [heap_set (by rw [heap_set_ne hal]; exact ha), arrV_none]
  have hT : Tch w ((w.setCell ⟨l, 2, none⟩ (.int .i64 (((arr.filterMap id).length : Int) - 1))).setCell ⟨a, i, none⟩ (.pointer none)) (fun k => k = l ∨ k = a) :=
    ((Tch.refl w _).setCell _ _ (fun _ => .inl rfl)).setCell _ _ (fun _ => .inr rfl)
  obtain ⟨W, hW⟩ : ∃ W, (w.setCell ⟨l, 2, none⟩ (.int .i64 (((arr.filterMap id).length : Int) - 1))).setCell ⟨a, i, none⟩ (.pointer none) = W := ⟨_, rfl⟩
  rw [hW] at hlW haW hT
  have HW := Lib.hid hW
  have HLW := Lib.hid hlW
  have HAW := Lib.hid haW
  have HT := Lib.hid hT
  have HNO := Lib.hid hnone
  have HI0 := Lib.hid hi0
  clear hl ha hnone hi0 hy hlW haW hT hW hp f hb hbi hla
  by_cases hih : i = hi
  · subst hih
    obtain ⟨z0, z1, z2, z3, z4, zf⟩ := dn_cells HLW.out
    have zf3 := zf 3
    have ZA : Hid (∀ j u, (arr.set i none)[j]? = some u → W.cell? ⟨a, j, none⟩ = some (optr u)) := by
      show ∀ j u, _
      intro j u h
      rw [cell_of_block HAW.out, arrV_get, h]; rfl
    clear zf
    go_enter Try.func149, Try.ntmps149
    go_wp2_with fail
    rw [HW.out]
    clear c0 c1 c2 c3 c4 f2 d0 fa e1 e2
    go_loop [4] (fun s => ∃ j : Nat, j ≤ arr.length ∧ s = .int .i64 j ∧ Hid (∀ k, k < j → (arr.set i none)[k]? = some none)) (fun s => arr.length - (intOf s).toNat)
    case atStart =>
      refine ⟨i, by omega, rfl, (?_ : ∀ k, k < i → _)⟩
      intro k hk
      rw [List.getElem?_set_ne (by omega)]
      exact HNO.out k hk
    case round =>
      obtain ⟨j, hj, rfl, HJ⟩ := hrel
      by_cases h1 : j < arr.length
      · obtain ⟨u, hu⟩ : ∃ u, (arr.set i none)[j]? = some u := ⟨_, List.getElem?_eq_getElem (by rw [List.length_set]; exact h1)⟩
        have zj := ZA.out j u hu
        have g1 : (j : Int) < (arr.length : Int) := by omega
        have HU := Lib.hid hu
        clear hu
        cases u with
        | none =>
          simp only [optr] at zj
          go_wp2_with fail
          go_round
          case rel =>
            refine ⟨j + 1, by omega, by go_num, (?_ : ∀ k, k < j + 1 → _)⟩
            intro k hk
            by_cases e : k = j
            · rw [e]; exact HU.out
            · exact HJ.out k (by omega)
          case measure => simp [intOf]; omega
        | some c =>
          simp only [optr] at zj
          go_wp2_with fail
          refine bodyPost_end (results_none rfl _ _ _) rfl ?_
          exact dn_rem_post HR.out HP.out HI0.out (dn_set3 HLW.out _) (by rw [heap_set_ne hal]; exact HAW.out) rfl rfl h1 HJ.out (HT.out.setCell _ _ (fun _ => .inl rfl))
      · go_wp2_with fail
        refine bodyPost_end (results_none rfl _ _ _) rfl ?_
        exact dn_rem_post HR.out HP.out HI0.out HLW.out HAW.out rfl rfl hil (fun k hk => HJ.out k (by omega)) HT.out
  · have hih' : ((i : Int) == (hi : Int)) = false := by rw [beq_eq_false_iff_ne]; omega
    go_enter Try.func149, Try.ntmps149
    go_wp2_with fail
    refine bodyPost_end (results_none rfl _ _ _) rfl ?_
    rw [HW.out]
    exact dn_rem_post HR.out HP.out HI0.out HLW.out HAW.out rfl rfl (by omega) (fun k hk => by rw [List.getElem?_set_ne (by omega)]; exact HNO.out k hk) HT.out

/-- remove of a list of children. -/
theorem remove_any (w : World) (fb : Nat → UInt8) (cl : CL) (x : Nat) (b : UInt8) (hraw : CLraw w cl) (hkb : KB w fb cl) (hx : x ∈ cl.kids) (hb : fb x = b) :
    Calls Try.prog (cl.fn 117 149) #[ptr cl.l, .int .u8 (b.toNat : Int)] w (RemP w fb cl x) := by
  cases cl with
  | sp l a cap ks => exact sp_rem w fb l a cap ks b x hraw hkb hx hb
  | dn l a mn hi arr => exact dn_rem w fb l a mn hi arr b x hraw hkb.placed hx hb

/-- What replace leaves: the list with c in x's place; only the list's array may have been written. -/
def RepP (w : World) (fb : Nat → UInt8) (cl : CL) (x c : Nat) (e : Ending) (w' : World) : Prop :=
  ∃ cl' r, e = .returned (.tuple #[]) ∧ CLraw w' cl' ∧ cl.kids.Perm (x :: r) ∧ cl'.kids.Perm (c :: r) ∧ cl'.placed (fun y => if y = c then fb x else fb y) ∧ cl'.l = cl.l ∧ cl'.a = cl.a ∧ cl'.val = cl.val ∧ Tch w w' (fun k => k = cl.a)

theorem sp_rep_post {w W : World} {fb : Nat → UInt8} {l a cap j x c : Nat} {ks : List Nat} (hraw : CLraw w (.sp l a cap ks)) (hj : ks[j]? = some x)
    (hW : W.heap = (w.setCell ⟨a, j, none⟩ (ptr c)).heap) (hm : W.os = w.os ∧ W.tape = w.tape ∧ W.output = w.output) :
    RepP w fb (.sp l a cap ks) x c (.returned (.tuple #[])) W := by
  obtain ⟨hl, hcap, hc2, C, ha, hC, hk⟩ := hraw
  have hla : l ≠ a := ne_of_type hl ha (by decide)
  have hjl := (List.getElem?_eq_some_iff.1 hj).1
  obtain ⟨h1, h2⟩ := split_at hj
  have ha' : W.heap[a]? = some (.cells (C.setIfInBounds j (ptr c)) 50 (0, 0)) := by rw [hW]; exact heap_set ha _
  have hl' : W.heap[l]? = some (.cells #[.slice (some ⟨a, 0, none⟩) ks.length cap] 105 (0, 0)) := by rw [hW, heap_set_ne hla]; exact hl
  refine ⟨.sp l a cap (ks.set j c), ks.take j ++ ks.drop (j + 1), rfl, ⟨by rw [List.length_set]; exact hl', by rw [List.length_set]; exact hcap, hc2, _, ha', by simp [hC], fun i d hi => ?_⟩, ?_, ?_, trivial, rfl, rfl, rfl, ?_⟩
  · by_cases e : i = j
    · subst e
      rw [List.getElem?_set_self (by omega)] at hi
      injection hi with hi
      subst hi
      rw [Array.getElem?_setIfInBounds_self, if_pos (by omega)]
    · rw [List.getElem?_set_ne (fun h => e h.symm)] at hi
      rw [Array.getElem?_setIfInBounds_ne (fun h => e h.symm)]
      exact hk i d hi
  · show ks.Perm _
    conv => lhs; rw [h1]
    exact List.perm_middle
  · show (ks.set j c).Perm _
    have : ks.set j c = ks.take j ++ c :: ks.drop (j + 1) := by
      conv => lhs; rw [h1]
      conv => lhs; arg 2; rw [← h2]
      exact set_at _ _ _ _
    rw [this]
    exact List.perm_middle
  · exact ⟨hm.1, hm.2.1, hm.2.2, by rw [hW]; simp, fun k _ hk => by have hk : k ≠ a := hk; rw [hW, heap_set_ne hk]⟩

set_option maxRecDepth 100000 in
set_option maxHeartbeats 3200000 in
theorem sp_rep (w : World) (fb : Nat → UInt8) (l a cap : Nat) (ks : List Nat) (b : UInt8) (x y : Nat) (hraw : CLraw w (.sp l a cap ks)) (hkb : KB w fb (.sp l a cap ks)) (hx : x ∈ ks) (hb : fb x = b) (hy : FB w y b) :
    Calls Try.prog 118 #[ptr l, .int .u8 (b.toNat : Int), ptr y] w (RepP w fb (.sp l a cap ks) x y) := by
  have HR := Lib.hid hraw
  have HKB := Lib.hid hkb
  obtain ⟨hl, hcap, hc2, C, ha, hC, hk⟩ := hraw
  have c0 : w.cell? ⟨l, 0, none⟩ = some (.slice (some ⟨a, 0, none⟩) ks.length cap) := by rw [cell_of_block hl]; rfl
  have hcells : ∀ (i c : Nat), ks[i]? = some c → w.cell? ⟨a, i, none⟩ = some (ptr c) := fun i c h => by rw [cell_of_block ha]; exact hk i c h
  have HC := Lib.hid hcells
  have hfr : ∀ i, w.frozen? ⟨a, i, none⟩ = false := fun i => free_of_block ha i
  have HF := Lib.hid hfr
  have hcl : ks.length ≤ 1000 := by omega
  obtain ⟨j, hj⟩ := List.mem_iff_getElem?.1 hx
  have hjl := (List.getElem?_eq_some_iff.1 hj).1
  have HJ := Lib.hid hj
  have HB := Lib.hid hb
  obtain ⟨ysb, yso, yn, yc, y1, y2, y3⟩ := hy
  clear hl ha hC hk hcells hkb hfr hj hb
  go_enter Try.func118, Try.ntmps118
  go_wp2_with fail
  go_loop [24] (fun i => ∃ k : Nat, k ≤ j ∧ i = .int .i64 k) (fun i => ks.length - (intOf i).toNat)
  case atStart => exact ⟨0, Nat.zero_le _, rfl⟩
  case round =>
    obtain ⟨k, hkj, rfl⟩ := hrel
    have h1 : k < ks.length := by omega
    obtain ⟨c, hc⟩ : ∃ c, ks[k]? = some c := ⟨ks[k], by simp [h1]⟩
    have c1 := HC.out k c hc
    obtain ⟨sb, so, n, cp, c2, hn, c3⟩ := HKB.out.rd c (List.mem_of_getElem? hc)
    have g1 : (k : Int) < (ks.length : Int) := by omega
    by_cases h3 : k = j
    · subst h3
      have hcx : c = x := by have := HJ.out; rw [hc] at this; injection this
      subst hcx
      have h4 : (((fb c).toNat : Int) == (b.toNat : Int)) = true := by simp [HB.out]
      have fa := HF.out k
      clear hc
      go_wp2_with fail
      refine bodyPost_end (results_none rfl _ _ _) rfl ?_
      exact sp_rep_post HR.out HJ.out rfl ⟨rfl, rfl, rfl⟩
    · have hcx : c ≠ x := fun e => by
        subst e
        have := HKB.out.nodup
        exact h3 ((List.getElem?_inj h1 this).1 (hc.trans HJ.out.symm))
      have h4 : (((fb c).toNat : Int) == (b.toNat : Int)) = false := by
        rw [beq_eq_false_iff_ne]
        intro h
        have h5 : fb c = fb x := by rw [HB.out]; exact UInt8.toNat_inj.1 (by omega)
        exact hcx (HKB.out.ne c x (List.mem_of_getElem? hc) hx h5)
      clear hc
      go_wp2_with fail
      go_round
      case rel => exact ⟨k + 1, by omega, by go_num⟩
      case measure => simp [intOf]; omega

set_option maxRecDepth 100000 in
set_option maxHeartbeats 3200000 in
theorem dn_rep (w : World) (fb : Nat → UInt8) (l a mn hi : Nat) (arr : List (Option Nat)) (b : UInt8) (x y : Nat) (hraw : CLraw w (.dn l a mn hi arr)) (hp : (CL.dn l a mn hi arr).placed fb) (hx : x ∈ arr.filterMap id) (hb : fb x = b) (hy : FB w y b) (hyk : y ∉ arr.filterMap id) :
    Calls Try.prog 150 #[ptr l, .int .u8 (b.toNat : Int), ptr y] w (RepP w fb (.dn l a mn hi arr) x y) := by
  have HR := Lib.hid hraw
  have HP := Lib.hid hp
  simp only [List.mem_filterMap, id] at hx
  obtain ⟨x', hx', rfl⟩ := hx
  obtain ⟨i, hi0⟩ := List.mem_iff_getElem?.1 hx'
  have hil := (List.getElem?_eq_some_iff.1 hi0).1
  have hbi := hp i x hi0
  rw [hb] at hbi
  obtain ⟨hl, hcap, hhi, hnone, ha⟩ := hraw
  have hl : w.heap[l]? = some (dnObj mn ((mn : Int) + arr.length - 1) ((arr.filterMap id).length : Int) hi a arr.length) := hl
  have ha : w.heap[a]? = some (.cells (arrV arr) 50 (0, 0)) := ha
  have hla : l ≠ a := ne_of_type hl ha (by decide)
  have hihi : hi ≤ i := by
    rcases Nat.lt_or_ge i hi with h | h
    · have := hnone i h; rw [hi0] at this; cases this
    · exact h
  obtain ⟨ysb, yso, yn, yc, y1, y2, y3⟩ := hy
  have hpost : ∀ W : World, W = (w.setCell ⟨a, i, none⟩ (.pointer (some ⟨y, 0, none⟩))).drew → RepP w fb (.dn l a mn hi arr) x y (.returned (.tuple #[])) W := by
    rintro W rfl
    have haW : ((w.setCell ⟨a, i, none⟩ (.pointer (some ⟨y, 0, none⟩))).drew).heap[a]? = some (.cells (arrV (arr.set i (some y))) 50 (0, 0)) := by
      have := heap_set (w := w) ha (i := i) (.pointer (some ⟨y, 0, none⟩))
      rw [arrV_set] at this
      exact this
    have hlW : ((w.setCell ⟨a, i, none⟩ (.pointer (some ⟨y, 0, none⟩))).drew).heap[l]? = w.heap[l]? := heap_set_ne (w := w) hla _
    have p1 := dn_rem_perm hi0
    have p2 : ((arr.set i (some y)).filterMap id).Perm (y :: (arr.set i none).filterMap id) := by
      have h0 : (arr.set i none)[i]? = some none := by rw [List.getElem?_set_self hil]
      have := filter_set h0 (x := y)
      rw [List.set_set] at this
      exact this
    have hlen : ((arr.set i (some y)).filterMap id).length = (arr.filterMap id).length := by rw [p1.length_eq, p2.length_eq]; simp
    refine ⟨.dn l a mn hi (arr.set i (some y)), (arr.set i none).filterMap id, rfl, ⟨?_, by rw [List.length_set]; exact hcap, by rw [List.length_set]; exact hhi, fun j hj => ?_, haW⟩, p1, p2, ?_, rfl, rfl, rfl, ?_⟩
    · rw [hlW, hl, List.length_set, hlen]; rfl
    · rw [List.getElem?_set_ne (by omega)]; exact hnone j hj
    · intro j c hc
      rw [List.getElem?_set] at hc
      split at hc
      · rename_i e
        subst e
        injection hc with hc
        injection hc with hc
        subst hc
        show (if y = y then fb x else fb y).toNat = _
        rw [if_pos rfl, hb]; exact hbi
      · have hcy : c ≠ y := fun e => hyk (by simp only [List.mem_filterMap, id]; exact ⟨some y, e ▸ List.mem_of_getElem? hc, rfl⟩)
        show (if c = y then fb x else fb c).toNat = _
        rw [if_neg hcy]; exact hp j c hc
    · exact ((Tch.refl w (fun k => k = a)).setCell ⟨a, i, none⟩ _ (fun _ => rfl)).drw
  have HPOST := Lib.hid hpost
  obtain ⟨c0, c1, c2, c3, c4, f⟩ := dn_cells hl
  obtain ⟨u, d0⟩ : ∃ u, w.cell? ⟨a, i, none⟩ = some u := ⟨_, by rw [cell_of_block ha, arrV_get, hi0]; rfl⟩
  have fa := free_of_block ha i
  have e1 : IntKind.i64.wrap ((b.toNat : Int) - (mn : Int)) = (i : Int) := by rw [IntWalk.i64_in _ (by omega)]; omega
  have e2 : (b.toNat : Int) - (mn : Int) = (i : Int) := by omega
  have g0 : (i : Int) < (arr.length : Int) := by omega
  clear hl ha hnone hi0 hx' hp f hb hbi hla hpost hyk
  go_enter Try.func150, Try.ntmps150
  go_wp2_with fail
  go_region
  go_wp2_with fail
  refine bodyPost_end (results_none rfl _ _ _) rfl ?_
  exact HPOST.out _ rfl

/-- replace of a list of children. -/
theorem replace_any (w : World) (fb : Nat → UInt8) (cl : CL) (x y : Nat) (b : UInt8) (hraw : CLraw w cl) (hkb : KB w fb cl) (hx : x ∈ cl.kids) (hb : fb x = b) (hy : FB w y b) (hyk : y ∉ cl.kids) :
    Calls Try.prog (cl.fn 118 150) #[ptr cl.l, .int .u8 (b.toNat : Int), ptr y] w (RepP w fb cl x y) := by
  cases cl with
  | sp l a cap ks => exact sp_rep w fb l a cap ks b x y hraw hkb hx hb hy
  | dn l a mn hi arr => exact dn_rep w fb l a mn hi arr b x y hraw hkb.placed hx hb hy hyk

end Go.Proofs.Ytmdbnjepajifpaa

/- What the changes of a trie do to its shape: a subtree dropped; a node that takes its one child into itself. No memory here. -/
namespace Go.Proofs.Ytmdbnjepajifpaa
open Go.RowKit

section
variable {root : Nat} {N : Nat → Prop} {nd : Nat → Nd} {wd : Nat → List UInt8} {S : Nat → List UInt8} {sh : Nat → Nat}

/-- What stands beneath a child's word stands beneath the child: a node whose word begins with a child's, and is a child of another, has a parent whose word begins so too, or is that child. -/
theorem Inv.under_par (I : Inv root N nd wd S sh) {q x p c : Nat} (hq : N q) (hx : x ∈ (nd q).cl.kids) (hp : N p) (hc : c ∈ (nd p).cl.kids) (h : wd x <+: wd c) : wd x <+: wd p ∨ (p = q ∧ c = x) := by
  have hpc := I.kid_pre hp hc
  rcases pre_total h hpc with h1 | h1
  · exact .inl h1
  · have hxN := (I.kid q hq x hx).1
    rcases I.desc hp hxN h1 with h2 | ⟨c', hc', h2⟩
    · left; rw [h2]; exact List.prefix_refl _
    · have e : c' = c := I.same_kid hp hc' hc (h2.trans h) (List.prefix_refl _)
      subst e
      have hw : wd x = wd c' := h.eq_of_length (Nat.le_antisymm h.length_le h2.length_le)
      have hcN := (I.kid p hp c' hc).1
      have e2 : c' = x := I.inj hxN hcN hw
      subst e2
      exact .inr ⟨I.par_unique hp hq hc hx, rfl⟩

/-- The subtree at a child x of q is dropped. -/
theorem Inv.drop (I : Inv root N nd wd S sh) {q x : Nat} {cl' : CL} (hq : N q) (hx : x ∈ (nd q).cl.kids) (km : ∀ c, c ∈ cl'.kids ↔ c ∈ (nd q).cl.kids ∧ c ≠ x) (hnd : cl'.kids.Nodup) (hpl : cl'.placed (fun c => (nd c).fb))
    (hl : cl'.l = (nd q).cl.l) (ha : cl'.a = (nd q).cl.a) : Inv root (fun y => N y ∧ ¬ wd x <+: wd y) (upd nd q { nd q with cl := cl' }) wd S sh := by
  have e : ∀ p, (upd nd q { nd q with cl := cl' } p).np = (nd p).np ∧ (upd nd q { nd q with cl := cl' } p).sb = (nd p).sb ∧ (upd nd q { nd q with cl := cl' } p).so = (nd p).so ∧
      (upd nd q { nd q with cl := cl' } p).px = (nd p).px ∧ (upd nd q { nd q with cl := cl' } p).cl.l = (nd p).cl.l ∧ (upd nd q { nd q with cl := cl' } p).cl.a = (nd p).cl.a := by
    intro p
    by_cases h : p = q
    · subst h; rw [upd_self]; exact ⟨rfl, rfl, rfl, rfl, hl, ha⟩
    · rw [upd_ne _ _ h]; exact ⟨rfl, rfl, rfl, rfl, rfl, rfl⟩
  have ek : ∀ p, p ≠ q → (upd nd q { nd q with cl := cl' } p).cl = (nd p).cl := fun p h => by rw [upd_ne _ _ h]
  have eq : (upd nd q { nd q with cl := cl' } q).cl = cl' := by rw [upd_self]
  have ef : ∀ p, (upd nd q { nd q with cl := cl' } p).fb = (nd p).fb := fun p => by unfold Nd.fb; rw [(e p).2.2.2.1]
  have efn : (fun c => (upd nd q { nd q with cl := cl' } c).fb) = fun c => (nd c).fb := funext ef
  have sub : ∀ p c, c ∈ (upd nd q { nd q with cl := cl' } p).cl.kids → c ∈ (nd p).cl.kids := fun p c h => by
    by_cases hp : p = q
    · subst hp; rw [eq] at h; exact ((km c).1 h).1
    · rw [ek p hp] at h; exact h
  have hlx := I.kid_longer hq hx
  generalize upd nd q { nd q with cl := cl' } = nd' at *
  refine ⟨⟨I.root_mem, fun h => ?_⟩, ?_, ?_, ?_, ?_, ?_, ?_, ?_, ?_, ?_, ?_, ?_⟩
  · have := h.length_le
    have := (I.root_le hq).length_le
    omega
  · rw [(e root).2.2.2.1]; exact I.root_wd
  · intro p hp hne; rw [(e p).1]; exact I.np p hp.1 hne
  · rintro p ⟨hp, hpx⟩ c hc
    obtain ⟨h1, h2, h3, h4⟩ := I.kid p hp c (sub p c hc)
    refine ⟨⟨h1, fun h => ?_⟩, h2, by rw [(e c).2.2.2.1]; exact h3, by rw [(e c).2.2.2.1]; exact h4⟩
    rcases I.under_par hq hx hp (sub p c hc) h with h' | ⟨h', h''⟩
    · exact hpx h'
    · subst h'; subst h''
      rw [eq] at hc
      exact ((km c).1 hc).2 rfl
  · rintro p ⟨hp, _⟩ c d hc hd h
    rw [ef, ef] at h
    exact I.ne p hp c d (sub p c hc) (sub p d hd) h
  · rintro p ⟨hp, _⟩
    by_cases h : p = q
    · subst h; rw [eq]; exact hnd
    · rw [ek p h]; exact I.nodup p hp
  · rintro p ⟨hp, _⟩
    rw [efn]
    by_cases h : p = q
    · subst h; rw [eq]; exact hpl
    · rw [ek p h]; exact I.placed p hp
  · rintro c ⟨hc, hcx⟩ hne
    obtain ⟨p, hp, h⟩ := I.par c hc hne
    refine ⟨p, ⟨hp, fun h' => hcx (h'.trans (I.kid_pre hp h))⟩, ?_⟩
    by_cases hpq : p = q
    · subst hpq
      rw [eq]
      exact (km c).2 ⟨h, fun e => by subst e; exact hcx (List.prefix_refl _)⟩
    · rw [ek p hpq]; exact h
  · rintro p r ⟨hp, _⟩ ⟨hr, _⟩ h; rw [(e p).2.2.2.2.1, (e r).2.2.2.2.1] at h; exact I.sepl p r hp hr h
  · rintro p r ⟨hp, _⟩ ⟨hr, _⟩ h; rw [(e p).2.2.2.2.2, (e r).2.2.2.2.2] at h; exact I.sepa p r hp hr h
  · rintro p ⟨hp, _⟩; exact I.len p hp
  · rintro p ⟨hp, _⟩ hn; rw [(e p).1] at hn; rw [(e p).2.1, (e p).2.2.1, (e p).2.2.2.1]; exact I.chain p hp hn

/-- A node takes its one child into itself: its record is the child's, with the two parts joined. -/
theorem Inv.absorb (I : Inv root N nd wd S sh) {p c : Nat} {d' : Nd} (hp : N p) (hpr : p ≠ root) (hc : (nd p).cl.kids = [c]) (hnp : d'.np = false) (hpx : d'.px = (nd p).px ++ (nd c).px) (hcl : d'.cl = (nd c).cl) (hL : Laid N nd p d') :
    ∃ (S' : Nat → List UInt8) (sh' : Nat → Nat), Inv root (fun x => N x ∧ x ≠ c) (upd nd p d') (upd wd p (wd c)) S' sh' := by
  have hcp : c ∈ (nd p).cl.kids := by rw [hc]; simp
  obtain ⟨hcN, hcr, hcw, hcx0⟩ := I.kid p hp c hcp
  have l2 := I.kid_longer hp hcp
  have hpc : p ≠ c := fun h => by rw [h] at l2; omega
  obtain ⟨S', sh', ⟨c1, c2⟩, c3⟩ := I.chain_join hp (I.np p hp hpr) hc hpx hL
  refine ⟨S', sh', ?_⟩
  have ep : upd nd p d' p = d' := upd_self _ _ _
  have eo : ∀ x, x ≠ p → upd nd p d' x = nd x := fun x h => upd_ne _ _ h
  have wp : upd wd p (wd c) p = wd c := upd_self _ _ _
  have wo : ∀ x, x ≠ p → upd wd p (wd c) x = wd x := fun x h => upd_ne _ _ h
  generalize upd nd p d' = nd' at *
  generalize upd wd p (wd c) = wd' at *
  have hpx0 : (nd p).px ≠ [] := by
    obtain ⟨P, hP, h⟩ := I.par p hp hpr
    exact (I.kid P hP p h).2.2.2
  have efp : (nd' p).fb = (nd p).fb := by
    unfold Nd.fb
    rw [ep, hpx]
    cases hx : (nd p).px with
    | nil => exact absurd hx hpx0
    | cons a r => rfl
  have ef : ∀ x, (nd' x).fb = (nd x).fb := fun x => by
    by_cases h : x = p
    · subst h; exact efp
    · rw [eo x h]
  have efn : (fun x => (nd' x).fb) = fun x => (nd x).fb := funext ef
  have only : ∀ x, N x → c ∈ (nd x).cl.kids → x = p := fun x hx h => I.par_unique hx hp h hcp
  have pnk : ∀ y, y ∈ (nd c).cl.kids → y ≠ p := fun y hy h => by
    have := I.kid_longer hcN hy
    rw [h] at this; omega
  refine ⟨⟨I.root_mem, fun h => hcr h.symm⟩, ?_, ?_, ?_, ?_, ?_, ?_, ?_, ?_, ?_, ?_, ?_⟩
  · rw [wo root (fun h => hpr h.symm), eo root (fun h => hpr h.symm)]; exact I.root_wd
  · rintro x ⟨hx, _⟩ hne
    by_cases h : x = p
    · subst h; rw [ep]; exact hnp
    · rw [eo x h]; exact I.np x hx hne
  · rintro x ⟨hx, hxc⟩ y hy
    by_cases h : x = p
    · subst h
      rw [ep, hcl] at hy
      obtain ⟨h1, h2, h3, h4⟩ := I.kid c hcN y hy
      have hyp := pnk y hy
      have hyc : y ≠ c := fun e => by have := I.kid_longer hcN hy; rw [e] at this; omega
      exact ⟨⟨h1, hyc⟩, h2, by rw [wo y hyp, wp, eo y hyp]; exact h3, by rw [eo y hyp]; exact h4⟩
    · rw [eo x h] at hy
      obtain ⟨h1, h2, h3, h4⟩ := I.kid x hx y hy
      have hyc : y ≠ c := fun e => by subst e; exact h (only x hx hy)
      by_cases hyp : y = p
      · subst hyp
        refine ⟨⟨h1, hyc⟩, h2, ?_, ?_⟩
        · rw [wp, wo x h, ep, hpx, hcw, h3, List.append_assoc]
        · rw [ep, hpx]; simp [h4]
      · exact ⟨⟨h1, hyc⟩, h2, by rw [wo y hyp, wo x h, eo y hyp]; exact h3, by rw [eo y hyp]; exact h4⟩
  · rintro x ⟨hx, hxc⟩ y z hy hz h
    rw [ef, ef] at h
    by_cases hxp : x = p
    · subst hxp
      rw [ep, hcl] at hy hz
      exact I.ne c hcN y z hy hz h
    · rw [eo x hxp] at hy hz
      exact I.ne x hx y z hy hz h
  · rintro x ⟨hx, hxc⟩
    by_cases hxp : x = p
    · subst hxp; rw [ep, hcl]; exact I.nodup c hcN
    · rw [eo x hxp]; exact I.nodup x hx
  · rintro x ⟨hx, hxc⟩
    rw [efn]
    by_cases hxp : x = p
    · subst hxp; rw [ep, hcl]; exact I.placed c hcN
    · rw [eo x hxp]; exact I.placed x hx
  · rintro x ⟨hx, hxc⟩ hne
    obtain ⟨y, hy, h⟩ := I.par x hx hne
    by_cases hyc : y = c
    · subst hyc
      exact ⟨p, ⟨hp, hpc⟩, by rw [ep, hcl]; exact h⟩
    · refine ⟨y, ⟨hy, hyc⟩, ?_⟩
      have hyp : y ≠ p := fun e => by
        subst e
        rw [hc] at h
        simp at h
        exact hxc h
      rw [eo y hyp]; exact h
  · have key : ∀ x, N x → x ≠ p → x ≠ c → (nd' x).cl.l ≠ (nd' p).cl.l := fun x hx h1 h2 h => by
      rw [eo x h1, ep, hcl] at h
      exact h2 (I.sepl x c hx hcN h)
    rintro x y ⟨hx, hxc⟩ ⟨hy, hyc⟩ h
    by_cases h1 : x = p <;> by_cases h2 : y = p
    · rw [h1, h2]
    · subst h1; exact absurd h.symm (key y hy h2 hyc)
    · subst h2; exact absurd h (key x hx h1 hxc)
    · rw [eo x h1, eo y h2] at h; exact I.sepl x y hx hy h
  · have key : ∀ x, N x → x ≠ p → x ≠ c → (nd' x).cl.a ≠ (nd' p).cl.a := fun x hx h1 h2 h => by
      rw [eo x h1, ep, hcl] at h
      exact h2 (I.sepa x c hx hcN h)
    rintro x y ⟨hx, hxc⟩ ⟨hy, hyc⟩ h
    by_cases h1 : x = p <;> by_cases h2 : y = p
    · rw [h1, h2]
    · subst h1; exact absurd h.symm (key y hy h2 hyc)
    · subst h2; exact absurd h (key x hx h1 hxc)
    · rw [eo x h1, eo y h2] at h; exact I.sepa x y hx hy h
  · rintro x ⟨hx, hxc⟩
    by_cases hxp : x = p
    · subst hxp; rw [wp]; exact I.len c hcN
    · rw [wo x hxp]; exact I.len x hx
  · rintro x ⟨hx, hxc⟩ hn
    by_cases hxp : x = p
    · subst hxp; rw [ep, wp]; exact ⟨c1, c2⟩
    · rw [eo x hxp] at hn
      rw [eo x hxp, wo x hxp]
      exact c3 x hx hxp hn

end

end Go.Proofs.Ytmdbnjepajifpaa

/- findSubtreePath hands back the nodes on the way to the node at a key. -/
namespace Go.Proofs.Ytmdbnjepajifpaa
open Go.RowKit Go.Proofs.YtmdbnjepajifpaaW.PrintWords Go.Proofs.YtmdbnjepajifpaaW.PrintLast Go.Proofs.YtmdbnjepajifpaaW.PrintMore

/-- Pointers as a kind of elements. -/
def kdp : Kd Nat := Kd.scalar (fun p => ptr p) (fun _ => rfl)

/-- A way down from the root. -/
def PathOk (root : Nat) (nd : Nat → Nd) (ps : List Nat) : Prop := ps[0]? = some root ∧ ∀ (i p c : Nat), ps[i]? = some p → ps[i + 1]? = some c → c ∈ (nd p).cl.kids

theorem PathOk.snoc {root : Nat} {nd : Nat → Nd} {ps : List Nat} {q x : Nat} (h : PathOk root nd (ps ++ [q])) (hx : x ∈ (nd q).cl.kids) : PathOk root nd (ps ++ [q] ++ [x]) := by
  obtain ⟨h0, h1⟩ := h
  refine ⟨by rw [List.getElem?_append_left (by simp)]; exact h0, fun i p c hp hc => ?_⟩
  have hl := (List.getElem?_eq_some_iff.1 hc).1
  simp only [List.length_append, List.length_cons, List.length_nil] at hl
  by_cases e : i + 1 < (ps ++ [q]).length
  · rw [List.getElem?_append_left e] at hc
    rw [List.getElem?_append_left (by omega)] at hp
    exact h1 i p c hp hc
  · simp only [List.length_append, List.length_cons, List.length_nil] at e
    have hi : i = ps.length := by omega
    subst hi
    rw [List.getElem?_append_right (by simp)] at hc
    simp at hc
    subst hc
    rw [List.getElem?_append_left (by simp), List.getElem?_append_right (by simp)] at hp
    simp at hp
    subst hp
    exact hx

/-- What findSubtreePath returns where there is a node at the key. -/
def PathP (root : Nat) (nd : Nat → Nd) (wd : Nat → List UInt8) (K : List UInt8) (w : World) (e : Ending) (w' : World) : Prop :=
  ∃ (ps : List Nat) (q : Nat) (v lo : Value), e = .returned (.tuple #[v, .bool true, lo]) ∧ Kd.R kdp 50 w' w.heap.size (fun _ => True) v (ps ++ [q]) ∧ PathOk root nd (ps ++ [q]) ∧ wd q = K ∧ (ps ++ [q]).length ≤ 11 ∧ Tch w w' (fun _ => False)

/-- A round: the way so far. -/
def PathI (root : Nat) (N : Nat → Prop) (nd : Nat → Nd) (wd : Nat → List UInt8) (K : List UInt8) (w : World) (kb : Nat) (q : Nat) (k : List UInt8) (o : Nat) (ps : List Nat) (v : Value) (wr : World) : Prop :=
  Srch root N nd wd K q k ∧ KS w kb o k ∧ PathOk root nd (ps ++ [q]) ∧ ps.length ≤ (wd q).length ∧ Tch w wr (fun _ => False) ∧ Kd.R kdp 50 wr w.heap.size (fun _ => True) v ps

theorem KS.tch {w W : World} {b o : Nat} {k : List UInt8} (h : KS w b o k) (hT : Tch w W (fun _ => False)) : KS W b o k := by
  intro i hi
  rw [World.cell?_of_block (w := w) (hT.keep b (World.block_lt_of_cell? w _ (h i hi)) (fun h => h))]
  exact h i hi

section
variable {w : World} {t : Nat} {mp : Int} {rp : List UInt8} {M : List UInt8 → Option Int} {O : Nat → Prop} {N : Nat → Prop} {nd : Nat → Nd} {wd : Nat → List UInt8} {S : Nat → List UInt8} {sh : Nat → Nat} {K k : List UInt8} {q : Nat}
theorem TA.tch (A : TA w t mp rp M O N nd wd S sh) {W : World} (hT : Tch w W (fun _ => False)) : TA W t mp rp M O N nd wd S sh := A.later (fun k hk => hT.keep k (A.lt k hk) (fun h => h)) hT.size

/-- Where there is a node at the key, the search does not part from it. -/
theorem Srch.hit (_I : Inv t N nd wd S sh) (h : Srch t N nd wd K q k) (hp : ∃ p, N p ∧ wd p = K) : wd q <+: K := by
  obtain ⟨p, hp, e⟩ := hp
  rw [← e]
  exact h.all p hp (by rw [e]; exact List.prefix_refl _)
end

set_option maxRecDepth 100000 in
set_option maxHeartbeats 3200000 in
theorem path_any {t : Nat} {mp : Int} {rp : List UInt8} {M : List UInt8 → Option Int} {O : Nat → Prop} {N : Nat → Prop} {nd : Nat → Nd} {wd : Nat → List UInt8} {S : Nat → List UInt8} {sh : Nat → Nat} (w : World) (A : TA w t mp rp M O N nd wd S sh)
    (kb ko kc : Nat) (K : List UInt8) (hk : KS w kb ko K) (hkc : K.length ≤ kc) (hkl : K.length ≤ 10) (hM : M K ≠ none) :
    Calls Try.prog 66 #[ptr t, .slice (some ⟨kb, ko, none⟩) K.length kc] w (PathP t nd wd K w) := by
  have hhit : ∃ p, N p ∧ wd p = K := A.C.of K hM
  have HK := Lib.hid hk
  have HA := Lib.hid A
  have HH := Lib.hid hhit
  clear hk A hM hhit
  go_enter Try.func66, Try.ntmps66
  go_wp2_with fail
  go_loopw [1, 4, 5, 6, 7, 8] (fun key pa f lo rt sp wr => ∃ (k : List UInt8) (o m q : Nat) (ps : List Nat) (v : Value), key = .slice (some ⟨kb, o, none⟩) k.length m ∧ pa = .slice none 0 0 ∧ f = .bool false ∧ lo = .slice none 0 0 ∧ rt = ptr q ∧ v = sp ∧ k.length ≤ m ∧ k.length ≤ 10 ∧
      Hid (PathI t N nd wd K w kb q k o ps v wr))
    (fun key _ _ _ rt _ _ => 2 * slen key + atRoot t rt)
  case atStart => exact ⟨K, ko, kc, t, [], _, rfl, rfl, rfl, rfl, rfl, rfl, hkc, hkl, (⟨Srch.start HA.out.T.I K, HK.out, ⟨rfl, fun i p c _ h => by simp at h⟩, Nat.zero_le _, Tch.refl _ _, Kd.R_nil _ _ _ _ _⟩ : PathI t N nd wd K w kb t K ko [] _ w)⟩
  case round =>
    obtain ⟨k, o, m, q, ps, v, rfl, rfl, rfl, rfl, rfl, rfl, hkm, hk10, HS⟩ := hrel
    obtain ⟨s1, s2, s3, s4, s5, s6⟩ := HS.out
    have hN := s1.mem
    have hn := HA.out.T.H q hN
    have hnp := HA.out.T.np hN
    have hpx := HA.out.T.pxl hN
    have hql : (wd q).length ≤ 10 := HA.out.T.I.len q hN
    have hBl : Below w.heap.size w wr := s5.below (fun _ _ h => h.elim) (Nat.le_refl _)
    have hlen : (ps.length + 1) * 8 ≤ 140737488355328 := by omega
    obtain ⟨c, hc⟩ : ∃ c, lcp (nd q).px k = c := ⟨_, rfl⟩
    have hcl := lcp_le_left (nd q).px k
    have hcr := lcp_le_right (nd q).px k
    rw [hc] at hcl hcr
    have HC := Lib.hid hc
    have HQ := Lib.hid (⟨s1, s2, s3, s4, s5, s6, hN, hn, hnp, hBl, hlen⟩ : _ ∧ _ ∧ _ ∧ _ ∧ _ ∧ _ ∧ _ ∧ _ ∧ _ ∧ _ ∧ _)
    have HLAY : Hid (∀ W, Tch w W (fun _ => False) → W.cell? ⟨q, 0, none⟩ = some (.slice (some ⟨(nd q).sb, (nd q).so, none⟩) (nd q).px.length (nd q).sc) ∧ W.cell? ⟨q, 4, none⟩ = some (.iface (nd q).cl.ty (ptr (nd q).cl.l)) ∧
        Calls Try.prog 70 #[ptr q, .slice (some ⟨kb, o, none⟩) k.length m] W (RetD (.int .i64 (c : Nat)) W)) := by
      show ∀ W, _
      intro W hT
      have A1 := HA.out.tch hT
      have h1 := A1.T.H q HQ.out.2.2.2.2.2.2.1
      refine ⟨h1.sl HQ.out.2.2.2.2.2.2.2.2.1, h1.c4, ?_⟩
      have := lcp_q W q kb o m (nd q) k h1 HQ.out.2.2.2.2.2.2.2.2.1 (HQ.out.2.1.tch hT) (by omega) (by omega) 0
      rw [HC.out] at this
      exact this
    clear s1 s2 s3 s4 s5 s6 hN hn hnp hBl hlen hc
    have m1 := m_next (nd q).cl
    have m2 := f_next (nd q).cl
    have hcp : c = (nd q).px.length := by
      rcases Nat.lt_or_ge c (nd q).px.length with h | h
      · exfalso
        have hp := HQ.out.1.hit HA.out.T.I HH.out
        obtain ⟨u, hu1, hu2⟩ := HQ.out.1.cut
        rw [hu1, hu2] at hp
        have h2 : (nd q).px <+: k := (List.prefix_append_right_inj u).1 hp
        obtain ⟨z, hz⟩ := h2
        have h3 := lcp_eq (nd q).px k (nd q).px.length (Nat.le_refl _) (by rw [← hz]; simp) (by rw [← hz]; simp) (fun h => by omega)
        rw [HC.out] at h3
        omega
      · omega
    have HCP := Lib.hid hcp
    clear hcp
    by_cases h1 : c = k.length
    · subst h1
      have hK : wd q = K := by
        have h := HQ.out.1.full (by rw [HC.out, HCP.out])
        rw [h, HC.out]
        simp
      have HKK := Lib.hid hK
      clear hK
      have hscc := HQ.out.2.2.2.2.2.2.2.1.le
      have hl11 : ps.length ≤ 10 := by have := HQ.out.2.2.2.1; have := HA.out.T.I.len q HQ.out.1.mem; omega
      by_cases h3 : m = k.length
      · subst h3
        go_wp2_with (first | ((with_reducible refine gate_builtin (b := .append) (xs := #[.tmp 12, .tmp 14]) rfl ?_); at_builtin; go_loud (refine Kd.R_append kdp (w0 := w) w.heap.size rfl (.tmp 12) (.tmp 14) 83 50 (.pointer none) 8 rfl Try.underlying83 infoPtr rfl (by decide) (by omega) v ps q [ptr q] (fun _ => True) (fun _ => False) rfl rfl rfl (fun _ hk => hk.elim) (fun _ _ => trivial) HQ.out.2.2.2.2.2.1 HQ.out.2.2.2.2.2.2.2.2.2.1 HQ.out.2.2.2.2.1.size HQ.out.2.2.2.2.2.2.2.2.2.2 ?_); intro v1 w3 r1 r2 r3 r4; have HT3 := Lib.hid (tch_below r2); obtain ⟨c0, c4, hl⟩ := HLAY.out w3 HT3.out; have HL := Lib.hid hl; have HR3 := Lib.hid r1; clear r1 r2 r3 r4 hl HLAY) | (go_at_call 70; refine HL.out.mono ?_; rintro e w' ⟨rfl, n1, rfl⟩))
        all_goals
          refine bodyPost_ret (results_tmp3 rfl _ _ _) rfl ?_
          exact ⟨ps, q, v1, _, rfl, Kd.R_step HR3.out (fun _ _ _ => rfl), HQ.out.2.2.1, HKK.out, by simp; omega, HT3.out.drn _⟩
      · go_wp2_with (first | ((with_reducible refine gate_builtin (b := .append) (xs := #[.tmp 12, .tmp 14]) rfl ?_); at_builtin; go_loud (refine Kd.R_append kdp (w0 := w) w.heap.size rfl (.tmp 12) (.tmp 14) 83 50 (.pointer none) 8 rfl Try.underlying83 infoPtr rfl (by decide) (by omega) v ps q [ptr q] (fun _ => True) (fun _ => False) rfl rfl rfl (fun _ hk => hk.elim) (fun _ _ => trivial) HQ.out.2.2.2.2.2.1 HQ.out.2.2.2.2.2.2.2.2.2.1 HQ.out.2.2.2.2.1.size HQ.out.2.2.2.2.2.2.2.2.2.2 ?_); intro v1 w3 r1 r2 r3 r4; have HT3 := Lib.hid (tch_below r2); obtain ⟨c0, c4, hl⟩ := HLAY.out w3 HT3.out; have HL := Lib.hid hl; have HR3 := Lib.hid r1; clear r1 r2 r3 r4 hl HLAY) | (go_at_call 70; refine HL.out.mono ?_; rintro e w' ⟨rfl, n1, rfl⟩))
        all_goals
          refine bodyPost_ret (results_tmp3 rfl _ _ _) rfl ?_
          exact ⟨ps, q, v1, _, rfl, Kd.R_step HR3.out (fun _ _ _ => rfl), HQ.out.2.2.1, HKK.out, by simp; omega, HT3.out.drn _⟩
    · have hck : c < k.length := by omega
      have hmc : ¬ m = c := by omega
      obtain ⟨b, hb⟩ : ∃ b, (k.drop c).head? = some b := by
        cases hd : k.drop c with
        | nil => have := congrArg List.length hd; rw [List.length_drop] at this; simp at this; omega
        | cons b l => exact ⟨b, rfl⟩
      have hne : ((k.length - c : Nat) : Int) ≠ 0 := by omega
      have hnz : (((k.length - c : Nat) : Int) == 0) = false := by rw [beq_eq_false_iff_ne]; exact hne
      have hpos : 0 < k.length - c := by omega
      have g2 : ¬ (c : Int) < ((nd q).px.length : Int) := by have := HCP.out; omega
      have HB := Lib.hid hb
      have hb0 : Hid (∀ W, Tch w W (fun _ => False) → W.cell? ⟨kb, o + c, none⟩ = some (.int .u8 (b.toNat : Int))) := by
        show ∀ W, _
        intro W hT
        exact ((HQ.out.2.1.tch hT).drop c).head HB.out
      clear hb hne
      have hfull : lcp (nd q).px k = (nd q).px.length := by rw [HC.out, HCP.out]
      have HFU := Lib.hid hfull
      clear hfull
      obtain ⟨x, hx⟩ : ∃ x, (nd q).cl.child (fun c => (nd c).fb) b = x := ⟨_, rfl⟩
      have HX := Lib.hid hx
      have HNX : Hid (∀ W, Tch w W (fun _ => False) → ∀ n, Calls Try.prog ((nd q).cl.fn 116 148) #[ptr (nd q).cl.l, .int .u8 (b.toNat : Int)] (W.drewN n) (RetD (optr x) (W.drewN n))) := by
        show ∀ W, _
        intro W hT n
        have A1 := HA.out.tch hT
        have := next_q W (fun c => (nd c).fb) (nd q).cl b (A1.T.H q HQ.out.1.mem).raw (A1.T.I.kb A1.T.H HQ.out.1.mem) n
        rw [HX.out] at this
        exact this
      clear hx
      cases x with
      | none =>
        exfalso
        obtain ⟨p, hp, e⟩ := HH.out
        exact HQ.out.1.no_child HA.out.T.I HFU.out (by rw [HC.out]; exact HB.out) (find_none HX.out) p hp (by rw [e]; exact List.prefix_refl _)
      | some x =>
        have hxk := find_some HX.out
        have hst := HQ.out.1.step HA.out.T.I HFU.out (by rw [HC.out]; exact HB.out) hxk.1 hxk.2
        rw [HC.out] at hst
        have hxr := (HA.out.T.I.kid q HQ.out.1.mem x hxk.1).2.1
        have hxl := HA.out.T.I.kid_longer HQ.out.1.mem hxk.1
        have HST := Lib.hid (⟨hst, HQ.out.2.1.drop c, HQ.out.2.2.1.snoc hxk.1, hxl⟩ : _ ∧ _ ∧ _ ∧ _)
        have HLT := Lib.hid (step_less HA.out.T.I HQ.out.1.mem hxr HCP.out hck)
        clear hxk hst hxr hxl
        go_wp2_with (first | ((with_reducible refine gate_builtin (b := .append) (xs := #[.tmp 12, .tmp 14]) rfl ?_); at_builtin; go_loud (refine Kd.R_append kdp (w0 := w) w.heap.size rfl (.tmp 12) (.tmp 14) 83 50 (.pointer none) 8 rfl Try.underlying83 infoPtr rfl (by decide) (by omega) v ps q [ptr q] (fun _ => True) (fun _ => False) rfl rfl rfl (fun _ hk => hk.elim) (fun _ _ => trivial) HQ.out.2.2.2.2.2.1 HQ.out.2.2.2.2.2.2.2.2.2.1 HQ.out.2.2.2.2.1.size HQ.out.2.2.2.2.2.2.2.2.2.2 ?_); intro v1 w3 r1 r2 r3 r4; have HT3 := Lib.hid (tch_below r2); obtain ⟨c0, c4, hl⟩ := HLAY.out w3 HT3.out; have HL := Lib.hid hl; have hb1 := hb0.out w3 HT3.out; have HNX1 := Lib.hid (HNX.out w3 HT3.out); have HR3 := Lib.hid r1; clear r1 r2 r3 r4 hl HLAY) | (go_at_call 70; refine HL.out.mono ?_; rintro e w' ⟨rfl, n1, rfl⟩))
        go_quiet (exact qshift HNX1.out _ _)
        go_wp2_with fail
        go_roundw
        case rel => exact ⟨k.drop c, o + c, m - c, x, ps ++ [q], v1, by rw [List.length_drop], rfl, rfl, rfl, rfl, rfl, by rw [List.length_drop]; omega, by rw [List.length_drop]; omega, (⟨HST.out.1, HST.out.2.1, HST.out.2.2.1, by have := HST.out.2.2.2; have := HQ.out.2.2.2.1; simp; omega, HT3.out.drn _, Kd.R_step HR3.out (fun _ _ _ => rfl)⟩ : PathI t N nd wd K w kb x (k.drop c) (o + c) (ps ++ [q]) v1 _)⟩
        case measure => exact HLT.out

end Go.Proofs.Ytmdbnjepajifpaa

/- A node joined with its one child, in memory: below its parent, or in the node itself. -/
namespace Go.Proofs.Ytmdbnjepajifpaa
open Go.RowKit Go.Proofs.YtmdbnjepajifpaaW.PrintWords Go.Proofs.YtmdbnjepajifpaaW.PrintLast Go.Proofs.YtmdbnjepajifpaaW.PrintMore

theorem ptr_row {w : World} {base : Nat} {ok : Nat → Prop} {v : Value} {ps : List Nat} (h : Kd.R kdp 50 w base ok v ps) (hne : ps ≠ []) :
    ∃ g c, v = .slice (some ⟨g, 0, none⟩) ps.length c ∧ base ≤ g ∧ ps.length ≤ c ∧ (∃ cur, w.heap[g]? = some (.cells cur 50 (0, 0))) ∧ ∀ (i p : Nat), ps[i]? = some p → w.cell? ⟨g, i, none⟩ = some (ptr p) := by
  have ho := Kd.own_of_R h
  rcases ho.2 with ⟨rfl, h0⟩ | ⟨g, cap, cur, rfl, hg, hh, hnc, _, _, htk⟩
  · exact absurd (List.length_eq_zero_iff.1 (by simpa [encs] using h0)) hne
  · refine ⟨g, cap, rfl, hg, hnc, ⟨cur, hh⟩, fun i p hp => ?_⟩
    rw [cell_of_block hh]
    have h1 : (encs (fun p => ptr p) ps)[i]? = some (ptr p) := by simp [encs, hp]
    rw [← htk, List.getElem?_take] at h1
    split at h1
    · simpa using h1
    · cases h1

section
variable {w w' : World} {t : Nat} {mp : Int} {rp : List UInt8} {M : List UInt8 → Option Int} {O : Nat → Prop} {N : Nat → Prop} {nd : Nat → Nd} {wd : Nat → List UInt8} {S : Nat → List UInt8} {sh : Nat → Nat}

/-- The child's record behind a join, and all other nodes as they were. -/
structure Joined (w w' : World) (O : Nat → Prop) (N : Nat → Prop) (nd : Nat → Nd) (p c : Nat) (d' : Nd) : Prop where
  one : (nd p).cl.kids = [c]
  itp : (nd p).it = none
  np : d'.np = false
  px : d'.px = (nd p).px ++ (nd c).px
  cl : d'.cl = (nd c).cl
  it : d'.it = none
  itc : (nd c).it = none
  laid : Laid N nd p d'
  here : HN w' c d'
  rest : ∀ r, N r → r ≠ c → HN w' r (nd r)
  sb : O d'.sb ∨ (w.heap.size ≤ d'.sb ∧ d'.sb < w'.heap.size)
  T : Tch w w' O

theorem join_mem (A : TA w t mp rp M O N nd wd S sh) {p c : Nat} (hp : N p) {e : Ending} (J : JoinP w p c (nd p) (nd c) e w') : ∃ d', Joined w w' O N nd p c d' := by
  obtain ⟨_, hone, hit, hitc, hJ⟩ := J
  have hcp : c ∈ (nd p).cl.kids := by rw [hone]; simp
  obtain ⟨hcN, hcr, hcw, hcx⟩ := A.T.I.kid p hp c hcp
  have hnp := A.T.np hp
  have hncp := A.T.np hcN
  have hP := A.T.H p hp
  have hC := A.T.H c hcN
  have hpl := A.T.I.kid_longer hp hcp
  have hpc : p ≠ c := fun h => by rw [h] at hpl; omega
  have ltb : (nd p).sb < w.heap.size := A.lt _ (A.own p hp).2.2.2
  have hcl := lt_of_heap hC.obj
  -- a node's bytes in the block that was written
  have apart : ∀ r, N r → r ≠ c → (nd r).sb = (nd p).sb → ∀ i, i < (nd r).px.length → (nd r).so + i < (nd p).so + (nd p).px.length ∨ (nd p).so + (nd p).px.length + (nd c).px.length ≤ (nd r).so + i := by
    intro r hr hrc hb i hi
    obtain ⟨a1, a2⟩ := A.T.I.chain p hp hnp
    obtain ⟨b1, b2⟩ := A.T.I.chain r hr (A.T.np hr)
    rw [hb] at b1 b2
    have hwc : (wd c).length = (wd p).length + (nd c).px.length := by rw [hcw, List.length_append]
    rcases pre_total b1 a1 with h | h
    · have := h.length_le
      left; omega
    · rcases A.T.I.desc hp hr h with h' | ⟨c', hc', h'⟩
      · rw [h'] at hi b2 ⊢; left; omega
      · rw [hone] at hc'
        simp at hc'
        subst hc'
        have hrr : r ≠ t := fun e => by
          have := (A.T.I.root_le hp).length_le
          have := h'.length_le
          rw [e] at this
          omega
        obtain ⟨P', hP', hk⟩ := A.T.I.par r hr hrr
        rcases A.T.I.under_par hp hcp hP' hk h' with h2 | ⟨_, h2⟩
        · have h3 := (A.T.I.kid P' hP' r hk).2.2.1
          have h4 := congrArg List.length h3
          rw [List.length_append] at h4
          have := h2.length_le
          right; omega
        · exact absurd h2 hrc
  rcases hJ with ⟨hroom, hobj, hblk, hT⟩ | ⟨g, cap, D, hg, hcap, hobj, hgh, hDs, hD, hT⟩
  · obtain ⟨C, fr, e1, e2, e3, e4⟩ := hP.blk hnp
    obtain ⟨C', g1, g2, g3, g4⟩ := hblk C fr e1
    have keep : ∀ k, k < w.heap.size → k ≠ c → k ≠ (nd p).sb → w'.heap[k]? = w.heap[k]? := fun k hk h1 h2 => hT.keep k hk (fun h => by rcases h with h | h; exact h1 h; exact h2 h)
    have frB : ∀ i, w'.frozen? ⟨(nd p).sb, i, none⟩ = w.frozen? ⟨(nd p).sb, i, none⟩ := fun i => by simp [World.frozen?, g1, e1]
    have rawK : ∀ r, N r → w'.heap[(nd r).cl.l]? = w.heap[(nd r).cl.l]? ∧ w'.heap[(nd r).cl.a]? = w.heap[(nd r).cl.a]? := fun r hr => by
      obtain ⟨_, o2, o3, _⟩ := A.own r hr
      exact ⟨keep _ (A.lt _ o2) (A.T.l_ne hr hcN) (A.T.sl_ne hp hr).symm, keep _ (A.lt _ o3) (A.T.a_ne hr hcN) (A.T.sa_ne hp hr).symm⟩
    refine ⟨joined (nd p) (nd c) (nd p).sb (nd p).so (nd p).sc, hone, hit, rfl, rfl, rfl, hitc, hitc, .inl ⟨rfl, rfl⟩, ⟨hobj, hC.raw.frame (rawK c hcN).1 (rawK c hcN).2, ?_, fun _ => ⟨C', fr, g1, by rw [g2]; exact e2, fun i hi => ?_, fun i hi => ?_⟩⟩, fun r hr hrc => ?_, .inl (A.own p hp).2.2.2, hT.mono (fun b _ h => ?_)⟩
    · show ((nd p).px ++ (nd c).px).length ≤ (nd p).sc
      rw [List.length_append]; exact hroom
    · show w'.frozen? ⟨(nd p).sb, i, none⟩ = false
      rw [frB]; exact e3 i (by omega)
    · have hi : i < ((nd p).px ++ (nd c).px).length := hi
      show C'[(nd p).so + i]? = some (.int .u8 ((((nd p).px ++ (nd c).px).getD i 0).toNat : Int))
      rw [List.length_append] at hi
      by_cases h : i < (nd p).px.length
      · rw [g3 _ (.inl (by omega)), e4 i h, List.getD_eq_getElem?_getD, List.getD_eq_getElem?_getD, List.getElem?_append_left h]
      · have := g4 (i - (nd p).px.length) (by omega)
        rw [show (nd p).so + (nd p).px.length + (i - (nd p).px.length) = (nd p).so + i by omega] at this
        rw [this, List.getD_eq_getElem?_getD, List.getD_eq_getElem?_getD, List.getElem?_append_right (by omega)]
    · obtain ⟨o1, _, _, o4⟩ := A.own r hr
      refine (A.T.H r hr).frameB (keep r (A.lt _ o1) hrc (fun h => A.T.s_ne hp hr h.symm)) (rawK r hr).1 (rawK r hr).2 (fun C2 fr2 h2 => ?_)
      by_cases hb : (nd r).sb = (nd p).sb
      · rw [hb] at h2 ⊢
        rw [e1] at h2
        injection h2 with h2
        injection h2 with q1 _ q2
        subst q1 q2
        refine ⟨C', g1, g2, fun i hi => g3 _ ?_⟩
        exact apart r hr hrc hb i hi
      · exact ⟨C2, (keep _ (A.lt _ o4) (A.T.s_ne hr hcN) hb).trans h2, rfl, fun _ _ => rfl⟩
    · rcases h with h | h
      · rw [h]; exact (A.own c hcN).1
      · rw [h]; exact (A.own p hp).2.2.2
  · have keep : ∀ k, k < w.heap.size → k ≠ c → w'.heap[k]? = w.heap[k]? := fun k hk h1 => hT.keep k hk h1
    have rawK : ∀ r, N r → w'.heap[(nd r).cl.l]? = w.heap[(nd r).cl.l]? ∧ w'.heap[(nd r).cl.a]? = w.heap[(nd r).cl.a]? := fun r hr => by
      obtain ⟨_, o2, o3, _⟩ := A.own r hr
      exact ⟨keep _ (A.lt _ o2) (A.T.l_ne hr hcN), keep _ (A.lt _ o3) (A.T.a_ne hr hcN)⟩
    refine ⟨joined (nd p) (nd c) g 0 cap, hone, hit, rfl, rfl, rfl, hitc, hitc, .inr ⟨rfl, fun r hr _ h => ?_⟩, ⟨hobj, hC.raw.frame (rawK c hcN).1 (rawK c hcN).2, ?_, fun _ => ⟨D, (0, 0), hgh, by show 0 + cap ≤ _; omega, fun i _ => free_of_block hgh i, fun i hi => ?_⟩⟩, fun r hr hrc => ?_, .inr ⟨hg, lt_of_heap hgh⟩, hT.mono (fun b _ h => ?_)⟩
    · have := A.lt _ (A.own r hr).2.2.2
      have h : (nd r).sb = g := h
      omega
    · show ((nd p).px ++ (nd c).px).length ≤ cap
      rw [List.length_append]; exact hcap
    · show D[0 + i]? = _
      rw [Nat.zero_add]
      exact hD i hi
    · obtain ⟨o1, _, _, o4⟩ := A.own r hr
      exact (A.T.H r hr).frame (keep r (A.lt _ o1) hrc) (rawK r hr).1 (rawK r hr).2 (keep _ (A.lt _ o4) (A.T.s_ne hr hcN))
    · rw [h]; exact (A.own c hcN).1

/-- The first byte of a joined node. -/
theorem Joined.fb {p c : Nat} {d' : Nd} (J : Joined w w' O N nd p c d') (hpx : (nd p).px ≠ []) : d'.fb = (nd p).fb := by
  unfold Nd.fb
  rw [J.px]
  cases hx : (nd p).px with
  | nil => exact absurd hx hpx
  | cons a r => rfl

/-- replace in the parent's list, behind a join. -/
theorem join_replace (A : TA w t mp rp M O N nd wd S sh) {P p c : Nat} {d' : Nd} (hP : N P) (hp : p ∈ (nd P).cl.kids) (J : Joined w w' O N nd p c d') :
    Calls Try.prog ((nd P).cl.fn 118 150) #[ptr (nd P).cl.l, .int .u8 ((nd p).fb.toNat : Int), ptr c] w' (RepP w' (fun x => (nd x).fb) (nd P).cl p c) := by
  obtain ⟨hpN, hpr, hpw, hpx⟩ := A.T.I.kid P hP p hp
  have hcp : c ∈ (nd p).cl.kids := by rw [J.one]; simp
  obtain ⟨hcN, hcr, hcw, hcx⟩ := A.T.I.kid p hpN c hcp
  have l1 := A.T.I.kid_longer hP hp
  have l2 := A.T.I.kid_longer hpN hcp
  have hPc : P ≠ c := fun h => by rw [h] at l1; omega
  have ckP : c ∉ (nd P).cl.kids := fun h => by
    have := A.T.I.par_unique hP hpN h hcp
    rw [this] at l1; omega
  have hkb : KB w' (fun x => (nd x).fb) (nd P).cl := by
    refine ⟨fun k hk => ?_, fun x y hx hy h => A.T.I.ne P hP x y hx hy h, A.T.I.nodup P hP, A.T.I.placed P hP⟩
    obtain ⟨h1, h2, _, h4⟩ := A.T.I.kid P hP k hk
    exact (J.rest k h1 (fun e => ckP (e ▸ hk))).fbr (A.T.I.np k h1 h2) h4
  have hfb : FB w' c (nd p).fb := by
    rw [← J.fb hpx]
    exact J.here.fbr J.np (by rw [J.px]; simp [hpx])
  exact replace_any w' _ (nd P).cl p c (nd p).fb (J.rest P hP hPc).raw hkb hp rfl hfb ckP

/-- The trie behind a join and replace. -/
theorem join_TA (A : TA w t mp rp M O N nd wd S sh) (L : Lf 1 N nd) {P p c : Nat} {d' : Nd} (hP : N P) (hp : p ∈ (nd P).cl.kids) (J : Joined w w' O N nd p c d') {w2 : World} {e : Ending} (R : RepP w' (fun x => (nd x).fb) (nd P).cl p c e w2) :
    ∃ N2 nd2 S2 sh2 O2, TA w2 t mp rp M O2 N2 nd2 wd S2 sh2 ∧ Lf 1 N2 nd2 ∧ N2 P ∧ (∀ k, O2 k → O k ∨ (w.heap.size ≤ k ∧ k < w2.heap.size)) ∧ Tch w w2 O := by
  obtain ⟨hpN, hpr, hpw, hpx⟩ := A.T.I.kid P hP p hp
  have hcp : c ∈ (nd p).cl.kids := by rw [J.one]; simp
  obtain ⟨hcN, hcr, hcw, hcx⟩ := A.T.I.kid p hpN c hcp
  have l1 := A.T.I.kid_longer hP hp
  have l2 := A.T.I.kid_longer hpN hcp
  have hPc : P ≠ c := fun h => by rw [h] at l1; omega
  have hPp : P ≠ p := fun h => by rw [h] at l1; omega
  have hpc : p ≠ c := fun h => by rw [h] at l2; omega
  have ckP : c ∉ (nd P).cl.kids := fun h => by
    have := A.T.I.par_unique hP hpN h hcp
    rw [this] at l1; omega
  obtain ⟨cl', r, _, hraw, hperm, hperm', hpl, hl, ha, hval, hT2⟩ := R
  have hnd0 := A.T.I.nodup P hP
  have hnr := hperm.nodup_iff.1 hnd0
  rw [List.nodup_cons] at hnr
  have cr : c ∉ r := fun h => ckP (hperm.mem_iff.2 (List.mem_cons_of_mem _ h))
  have km : ∀ x, x ∈ cl'.kids ↔ (x ∈ (nd P).cl.kids ∧ x ≠ p) ∨ x = c := fun x => by
    rw [hperm'.mem_iff, hperm.mem_iff, List.mem_cons, List.mem_cons]
    constructor
    · rintro (h | h)
      · exact .inr h
      · exact .inl ⟨.inr h, fun e => hnr.1 (e ▸ h)⟩
    · rintro (⟨h | h, h2⟩ | h)
      · exact absurd h h2
      · exact .inr h
      · exact .inl h
  have hnd' : cl'.kids.Nodup := hperm'.nodup_iff.2 (List.nodup_cons.2 ⟨cr, hnr.2⟩)
  have ec : upd (upd nd P { nd P with cl := cl' }) c d' c = d' := upd_self _ _ _
  have eP : upd (upd nd P { nd P with cl := cl' }) c d' P = { nd P with cl := cl' } := by rw [upd_ne _ _ hPc, upd_self]
  have eo : ∀ x, x ≠ P → x ≠ c → upd (upd nd P { nd P with cl := cl' }) c d' x = nd x := fun x h1 h2 => by rw [upd_ne _ _ h2, upd_ne _ _ h1]
  have hpl' : cl'.placed (fun x => (upd (upd nd P { nd P with cl := cl' }) c d' x).fb) := by
    refine placed_perm hpl (fun x hx => ?_)
    by_cases h1 : x = c
    · subst h1
      rw [ec, if_pos rfl, J.fb hpx]
    · rw [if_neg h1]
      have h2 : x ≠ P := fun e => by
        rcases (km x).1 hx with h | h
        · have := A.T.I.kid_longer hP h.1; rw [e] at this; omega
        · exact h1 h
      rw [eo x h2 h1]
  obtain ⟨S2, sh2, I2⟩ := A.T.I.join hP hp J.one J.np J.px J.cl J.laid km hnd' hpl' (fun x hx hxP _ h => by rw [hl] at h; exact hxP (A.T.I.sepl x P hx hP h)) (fun x hx hxP _ h => by rw [ha] at h; exact hxP (A.T.I.sepa x P hx hP h))
  have hTT : Tch w w2 O := J.T.trans hT2 (fun b _ h => by rw [h]; exact (A.own P hP).2.2.1)
  -- blocks behind replace
  have s1 := J.T.size
  have keep2 : ∀ k, k < w'.heap.size → k ≠ (nd P).cl.a → w2.heap[k]? = w'.heap[k]? := fun k hk h => hT2.keep k hk h
  have lt' : ∀ k, k < w.heap.size → k < w'.heap.size := fun k h => by omega
  refine ⟨_, _, S2, sh2, fun k => O k ∨ k = d'.sb, ⟨⟨I2, ?_, ?_⟩, ⟨?_, ?_⟩, ?_, ?_, ?_, ?_⟩, ?_, ⟨hP, hPp⟩, ?_, hTT⟩
  · rintro x ⟨hx, hxp⟩
    obtain ⟨o1, o2, o3, o4⟩ := A.own x hx
    by_cases h1 : x = c
    · subst h1
      rw [ec]
      refine J.here.frame (keep2 _ (lt' _ (A.lt _ o1)) (A.T.a_ne hP hx).symm) ?_ ?_ ?_
      · rw [J.cl]; exact keep2 _ (lt' _ (A.lt _ o2)) (A.T.la_ne hx hP)
      · rw [J.cl]; exact keep2 _ (lt' _ (A.lt _ o3)) (fun h => hPc (A.T.I.sepa x P hx hP h).symm)
      · obtain ⟨C, fr, b1, _⟩ := J.here.blk J.np
        obtain ⟨D, b2⟩ := (J.rest P hP hPc).raw.a_ty
        exact keep2 _ (lt_of_heap b1) (ne_of_type b1 b2 (by decide))
    · by_cases h2 : x = P
      · subst h2
        rw [eP]
        have hN := J.rest x hx hPc
        refine ⟨?_, hraw, hN.le, fun hn => ?_⟩
        · rw [keep2 _ (lt' _ (A.lt _ o1)) (A.T.a_ne hx hx).symm, hN.obj]
          unfold Nd.obj
          rw [show ({ nd x with cl := cl' } : Nd).cl.val = (nd x).cl.val from hval]
          rfl
        · obtain ⟨C, fr, b1, b2, b3, b4⟩ := hN.blk hn
          have hs := keep2 _ (lt' _ (A.lt _ o4)) (A.T.sa_ne hx hx)
          exact ⟨C, fr, hs.trans b1, b2, fun i hi => by rw [frozen_same hs]; exact b3 i hi, b4⟩
      · rw [eo x h2 h1]
        exact (J.rest x hx h1).frame (keep2 _ (lt' _ (A.lt _ o1)) (A.T.a_ne hP hx).symm) (keep2 _ (lt' _ (A.lt _ o2)) (A.T.la_ne hx hP)) (keep2 _ (lt' _ (A.lt _ o3)) (fun h => h2 (A.T.I.sepa x P hx hP h))) (keep2 _ (lt' _ (A.lt _ o4)) (A.T.sa_ne hx hP))
  · by_cases h2 : t = P
    · subst h2; rw [eP]; exact A.T.rn
    · rw [eo t h2 (fun e => hcr e.symm)]; exact A.T.rn
  · rintro x ⟨hx, hxp⟩
    by_cases h1 : x = c
    · subst h1; rw [ec, J.it, A.C.at_ x hx, J.itc]
    · by_cases h2 : x = P
      · subst h2; rw [eP]; exact A.C.at_ x hx
      · rw [eo x h2 h1]; exact A.C.at_ x hx
  · intro k hk
    obtain ⟨x, hx, e⟩ := A.C.of k hk
    refine ⟨x, ⟨hx, fun h => ?_⟩, e⟩
    subst h
    rw [← e, A.C.at_ x hx, J.itp] at hk
    exact hk rfl
  · rintro x ⟨hx, hxp⟩
    obtain ⟨o1, o2, o3, o4⟩ := A.own x hx
    by_cases h1 : x = c
    · subst h1; rw [ec, J.cl]; exact ⟨.inl o1, .inl o2, .inl o3, .inr rfl⟩
    · by_cases h2 : x = P
      · subst h2; rw [eP]; exact ⟨.inl o1, .inl (by show O cl'.l; rw [hl]; exact o2), .inl (by show O cl'.a; rw [ha]; exact o3), .inl o4⟩
      · rw [eo x h2 h1]; exact ⟨.inl o1, .inl o2, .inl o3, .inl o4⟩
  · intro k hk
    have s2 := hT2.size
    rcases hk with h | h
    · have := A.lt k h; omega
    · obtain ⟨C, fr, b1, _⟩ := J.here.blk J.np
      have := lt_of_heap b1
      rw [h]; omega
  · by_cases h2 : t = P
    · subst h2; rw [eP]; exact A.mp
    · rw [eo t h2 (fun e => hcr e.symm)]; exact A.mp
  · by_cases h2 : t = P
    · subst h2; rw [eP]; exact A.rp
    · rw [eo t h2 (fun e => hcr e.symm)]; exact A.rp
  · rintro x ⟨hx, hxp⟩
    by_cases h1 : x = c
    · subst h1
      rw [ec, J.cl, J.it]
      rcases L x hx with h | h
      · exact absurd J.itc h
      · exact .inr h
    · by_cases h2 : x = P
      · subst h2
        rw [eP]
        right
        show 1 ≤ cl'.kids.length
        rw [hperm'.length_eq]; simp
      · rw [eo x h2 h1]; exact L x hx
  · intro k hk
    rcases hk with h | h
    · exact .inl h
    · have s2 := hT2.size
      rcases J.sb with h' | h'
      · rw [h]; exact .inl h'
      · rw [h]; exact .inr ⟨h'.1, by omega⟩

/-- The trie behind a join in the node itself. -/
theorem absorb_TA (A : TA w t mp rp M O N nd wd S sh) (L : Lf 1 N nd) {p c : Nat} {d' : Nd} (hp : N p) (hpr : p ≠ t) (J : Joined w w' O N nd p c d') {w2 : World} (ho : w2.heap[p]? = some d'.obj) (hk : ∀ k, k ≠ p → w2.heap[k]? = w'.heap[k]?) (hs : w2.heap.size = w'.heap.size) (_hT : Tch w w2 O) :
    ∃ N2 nd2 wd2 S2 sh2 O2, TA w2 t mp rp M O2 N2 nd2 wd2 S2 sh2 ∧ Lf 1 N2 nd2 ∧ (∀ k, O2 k → O k ∨ (w.heap.size ≤ k ∧ k < w2.heap.size)) := by
  have hcp : c ∈ (nd p).cl.kids := by rw [J.one]; simp
  obtain ⟨hcN, hcr, hcw, hcx⟩ := A.T.I.kid p hp c hcp
  have l2 := A.T.I.kid_longer hp hcp
  have hpc : p ≠ c := fun h => by rw [h] at l2; omega
  obtain ⟨S2, sh2, I2⟩ := A.T.I.absorb hp hpr J.one J.np J.px J.cl J.laid
  have ep : upd nd p d' p = d' := upd_self _ _ _
  have eo : ∀ x, x ≠ p → upd nd p d' x = nd x := fun x h => upd_ne _ _ h
  have wp : upd wd p (wd c) p = wd c := upd_self _ _ _
  have wo : ∀ x, x ≠ p → upd wd p (wd c) x = wd x := fun x h => upd_ne _ _ h
  have s1 := J.T.size
  refine ⟨_, _, _, S2, sh2, fun k => O k ∨ k = d'.sb, ⟨⟨I2, ?_, ?_⟩, ⟨?_, ?_⟩, ?_, ?_, ?_, ?_⟩, ?_, ?_⟩
  · rintro x ⟨hx, hxc⟩
    by_cases h : x = p
    · subst h
      rw [ep]
      have nl : d'.cl.l ≠ x := by rw [J.cl]; exact A.T.l_ne hcN hx
      have na : d'.cl.a ≠ x := by rw [J.cl]; exact A.T.a_ne hcN hx
      refine ⟨ho, J.here.raw.frame (hk _ nl) (hk _ na), J.here.le, fun hn => ?_⟩
      obtain ⟨C, fr, b1, b2, b3, b4⟩ := J.here.blk hn
      have hb := hk d'.sb (ne_of_type b1 (J.rest x hx hxc).obj (by decide))
      exact ⟨C, fr, hb.trans b1, b2, fun i hi => by rw [frozen_same hb]; exact b3 i hi, b4⟩
    · rw [eo x h]
      exact (J.rest x hx hxc).frame (hk x h) (hk _ (A.T.l_ne hx hp)) (hk _ (A.T.a_ne hx hp)) (hk _ (A.T.s_ne hx hp))
  · rw [eo t (fun e => hpr e.symm)]; exact A.T.rn
  · rintro x ⟨hx, hxc⟩
    by_cases h : x = p
    · subst h; rw [wp, ep, J.it, A.C.at_ c hcN, J.itc]
    · rw [wo x h, eo x h]; exact A.C.at_ x hx
  · intro k hkk
    obtain ⟨x, hx, e⟩ := A.C.of k hkk
    by_cases h : x = p
    · exfalso
      rw [← e, A.C.at_ x hx, h, J.itp] at hkk
      exact hkk rfl
    · refine ⟨x, ⟨hx, fun h' => ?_⟩, by rw [wo x h]; exact e⟩
      rw [← e, A.C.at_ x hx, h', J.itc] at hkk
      exact hkk rfl
  · rintro x ⟨hx, hxc⟩
    obtain ⟨o1, o2, o3, o4⟩ := A.own x hx
    by_cases h : x = p
    · subst h
      obtain ⟨_, c2, c3, _⟩ := A.own c hcN
      rw [ep, J.cl]; exact ⟨.inl o1, .inl c2, .inl c3, .inr rfl⟩
    · rw [eo x h]; exact ⟨.inl o1, .inl o2, .inl o3, .inl o4⟩
  · intro k hk
    rcases hk with h | h
    · have := A.lt k h; omega
    · obtain ⟨C, fr, b1, _⟩ := J.here.blk J.np
      have := lt_of_heap b1
      rw [h, hs]; exact this
  · rw [eo t (fun e => hpr e.symm)]; exact A.mp
  · rw [eo t (fun e => hpr e.symm)]; exact A.rp
  · rintro x ⟨hx, hxc⟩
    by_cases h : x = p
    · subst h
      rw [ep, J.cl, J.it]
      rcases L c hcN with h | h
      · exact absurd J.itc h
      · exact .inr h
    · rw [eo x h]; exact L x hx
  · intro k hk
    rcases hk with h | h
    · exact .inl h
    · rcases J.sb with h' | h'
      · rw [h]; exact .inl h'
      · rw [h, hs]; exact .inr h'
end

end Go.Proofs.Ytmdbnjepajifpaa

/- What Delete does to a trie, step by step: a subtree dropped, a struct stored whole. -/
namespace Go.Proofs.Ytmdbnjepajifpaa
open Go.RowKit Go.Proofs.YtmdbnjepajifpaaW.PrintWords Go.Proofs.YtmdbnjepajifpaaW.PrintLast Go.Proofs.YtmdbnjepajifpaaW.PrintMore

/-- A scope with one label to which the run jumps ahead only. -/
theorem wp_scope1 {P : Program} {c r0 : Code} {Q : Exit → Act → World → Prop} {a : Act} {w : World} (h0 : findLabel c 0 = some r0)
    (h : ∀ J0 : Act → World → Prop, (∀ a w, r0.wp P (Exit.noGoto Q) a w → J0 a w) → c.wp P (Exit.j1 J0 Q) a w) : (Code.scope c).wp P Q a w := by
  have H := h (fun a w => r0.wp P (Exit.noGoto Q) a w) (fun _ _ h => h)
  intro b k cs
  have hg : ∀ l r, findLabel c l = some r → gotoIn l (.inScope c :: k) = some (.code r :: .inScope c :: k) := fun l r hf => by simp [gotoIn, hf]
  have k0 : ∀ a w, r0.wp P (Exit.noGoto Q) a w → ∃ e a' w', Q e a' w' ∧ Arrives P (lone (b.at a (.code r0 :: .inScope c :: k)) cs w) b k cs e a' w' := by
    intro a w hr
    obtain ⟨e, a₁, w₁, hq, harr⟩ := hr b (.inScope c :: k) cs
    cases e with
    | normal => exact ⟨.normal, a₁, w₁, hq, Steps.trans harr (.one step_inScope)⟩
    | exit id => exact ⟨.exit id, a₁, w₁, hq, fun k' hk => harr k' (by simp [exitTo, hk])⟩
    | goto l' => exact hq.elim
    | ret => exact ⟨_, a₁, w₁, hq, harr⟩
    | panic ch => exact ⟨_, a₁, w₁, hq, harr⟩
    | outgrown => exact ⟨_, a₁, w₁, hq, harr⟩
  obtain ⟨e, a₁, w₁, hq, harr⟩ := H b (.inScope c :: k) cs
  cases e with
  | normal => exact ⟨.normal, a₁, w₁, hq, .head step_scope (Steps.trans harr (.one step_inScope))⟩
  | exit id => exact ⟨.exit id, a₁, w₁, hq, fun k' hk => .head step_scope (harr k' (by simp [exitTo, hk]))⟩
  | goto l' =>
    obtain ⟨rfl, hq⟩ := hq
    obtain ⟨e₂, a₂, w₂, hq₂, harr₂⟩ := k0 _ _ hq
    exact ⟨e₂, a₂, w₂, hq₂, .of_steps (.head step_scope (harr _ (hg 0 r0 h0))) harr₂⟩
  | ret => exact ⟨_, a₁, w₁, hq, .of_steps (.one step_scope) harr⟩
  | panic ch => exact ⟨_, a₁, w₁, hq, .of_steps (.one step_scope) harr⟩
  | outgrown => exact ⟨_, a₁, w₁, hq, .of_steps (.one step_scope) harr⟩

section
variable {w w' W : World} {t : Nat} {mp : Int} {rp : List UInt8} {M M2 : List UInt8 → Option Int} {O : Nat → Prop} {N : Nat → Prop} {nd : Nat → Nd} {wd : Nat → List UInt8} {S : Nat → List UInt8} {sh : Nat → Nat}

/-- A trie that has the keys A and Z: its root stands for the empty word and has two children at least. -/
theorem root_two (A : TA w t mp rp M O N nd wd S sh) (ha : M [65] ≠ none) (hz : M [90] ≠ none) : rp = [] ∧ wd t = [] ∧ 2 ≤ (nd t).cl.kids.length := by
  obtain ⟨p, hp, e1⟩ := A.C.of _ ha
  obtain ⟨q, hq, e2⟩ := A.C.of _ hz
  have r1 := A.T.I.root_le hp
  have r2 := A.T.I.root_le hq
  rw [e1] at r1
  rw [e2] at r2
  have hw : wd t = [] := by
    cases hx : wd t with
    | nil => rfl
    | cons a l =>
      rw [hx] at r1 r2
      have h1 := List.cons_prefix_cons.1 r1
      have h2 := List.cons_prefix_cons.1 r2
      rw [h1.1] at h2
      exact absurd h2.1 (by decide)
  have kid : ∀ p b, N p → wd p = [b] → ∃ c, c ∈ (nd t).cl.kids ∧ (nd c).fb = b := fun p b hp e => by
    rcases A.T.I.desc A.T.I.root_mem hp (by rw [hw]; exact List.nil_prefix) with h | ⟨c, hc, h⟩
    · rw [h, hw] at e; cases e
    · have := A.T.I.byte_at A.T.I.root_mem hc h
      rw [hw, e] at this
      exact ⟨c, hc, by simpa using this.symm⟩
  obtain ⟨c, hc, f1⟩ := kid p _ hp e1
  obtain ⟨d, hd, f2⟩ := kid q _ hq e2
  refine ⟨by rw [← A.rp, ← A.T.I.root_wd, hw], hw, ?_⟩
  rcases Nat.lt_or_ge (nd t).cl.kids.length 2 with h | h
  · exfalso
    have : c = d := by
      cases hk : (nd t).cl.kids with
      | nil => rw [hk] at hc; cases hc
      | cons a l =>
        rw [hk] at hc hd h
        have hl : l = [] := List.length_eq_zero_iff.1 (by simp at h; omega)
        subst hl
        simp at hc hd
        rw [hc, hd]
    rw [this, f2] at f1
    exact absurd f1 (by decide)
  · exact h

/-- The trie behind a remove: the subtree at x is gone. -/
theorem drop_TA {m : Nat} (A : TA w t mp rp M O N nd wd S sh) {q x : Nat} (hq : N q) (hx : x ∈ (nd q).cl.kids) {e : Ending} (R : RemP w (fun c => (nd c).fb) (nd q).cl x e w')
    (h1 : ∀ y, N y → ¬ wd x <+: wd y → M2 (wd y) = M (wd y)) (h2 : ∀ k, M2 k ≠ none → M k ≠ none ∧ ¬ wd x <+: k)
    (L : ∀ y, N y → ¬ wd x <+: wd y → y ≠ q → (nd y).it ≠ none ∨ m ≤ (nd y).cl.kids.length) (Lq : (nd q).it ≠ none ∨ m + 1 ≤ (nd q).cl.kids.length) :
    ∃ cl', TA w' t mp rp M2 O (fun y => N y ∧ ¬ wd x <+: wd y) (upd nd q { nd q with cl := cl' }) wd S sh ∧ Lf m (fun y => N y ∧ ¬ wd x <+: wd y) (upd nd q { nd q with cl := cl' }) ∧ Tch w w' O := by
  obtain ⟨cl', _, hraw, hperm, hpl, hl, ha, hval, hT⟩ := R
  have hnd0 := hperm.nodup_iff.1 (A.T.I.nodup q hq)
  rw [List.nodup_cons] at hnd0
  have km : ∀ c, c ∈ cl'.kids ↔ c ∈ (nd q).cl.kids ∧ c ≠ x := fun c => by
    rw [hperm.mem_iff, List.mem_cons]
    constructor
    · intro h; exact ⟨.inr h, fun e => hnd0.1 (e ▸ h)⟩
    · rintro ⟨h | h, h'⟩
      · exact absurd h h'
      · exact h
  have I2 := A.T.I.drop hq hx km hnd0.2 hpl hl ha
  have hlen := hperm.length_eq
  rw [List.length_cons] at hlen
  have eq : upd nd q { nd q with cl := cl' } q = { nd q with cl := cl' } := upd_self _ _ _
  have eo : ∀ y, y ≠ q → upd nd q { nd q with cl := cl' } y = nd y := fun y h => upd_ne _ _ h
  have keep : ∀ k, k < w.heap.size → k ≠ (nd q).cl.l → k ≠ (nd q).cl.a → w'.heap[k]? = w.heap[k]? := fun k hk n1 n2 => hT.keep k hk (fun h => by rcases h with h | h; exact n1 h; exact n2 h)
  have hTO : Tch w w' O := hT.mono (fun b _ h => by
    obtain ⟨_, o2, o3, _⟩ := A.own q hq
    rcases h with h | h
    · rw [h]; exact o2
    · rw [h]; exact o3)
  refine ⟨cl', ⟨⟨I2, ?_, ?_⟩, ⟨?_, ?_⟩, ?_, fun k hk => Nat.lt_of_lt_of_le (A.lt k hk) hT.size, ?_, ?_⟩, ?_, hTO⟩
  · rintro y ⟨hy, _⟩
    obtain ⟨o1, o2, o3, o4⟩ := A.own y hy
    by_cases h : y = q
    · subst h
      rw [eq]
      have hN := A.T.H y hy
      refine ⟨?_, hraw, hN.le, fun hn => ?_⟩
      · rw [keep y (A.lt _ o1) (A.T.l_ne hy hy).symm (A.T.a_ne hy hy).symm, hN.obj]
        unfold Nd.obj
        rw [show ({ nd y with cl := cl' } : Nd).cl.val = (nd y).cl.val from hval]
        rfl
      · obtain ⟨C, fr, b1, b2, b3, b4⟩ := hN.blk hn
        have hs := keep _ (A.lt _ o4) (A.T.sl_ne hy hy) (A.T.sa_ne hy hy)
        exact ⟨C, fr, hs.trans b1, b2, fun i hi => by rw [frozen_same hs]; exact b3 i hi, b4⟩
    · rw [eo y h]
      exact (A.T.H y hy).frame (keep y (A.lt _ o1) (A.T.l_ne hq hy).symm (A.T.a_ne hq hy).symm) (keep _ (A.lt _ o2) (fun e => h (A.T.I.sepl y q hy hq e)) (A.T.la_ne hy hq)) (keep _ (A.lt _ o3) (A.T.la_ne hq hy).symm (fun e => h (A.T.I.sepa y q hy hq e))) (keep _ (A.lt _ o4) (A.T.sl_ne hy hq) (A.T.sa_ne hy hq))
  · by_cases h : t = q
    · subst h; rw [eq]; exact A.T.rn
    · rw [eo t h]; exact A.T.rn
  · rintro y ⟨hy, hyx⟩
    rw [h1 y hy hyx, A.C.at_ y hy]
    by_cases h : y = q
    · subst h; rw [eq]
    · rw [eo y h]
  · intro k hk
    obtain ⟨h3, h4⟩ := h2 k hk
    obtain ⟨y, hy, e⟩ := A.C.of k h3
    exact ⟨y, ⟨hy, by rw [e]; exact h4⟩, e⟩
  · rintro y ⟨hy, _⟩
    obtain ⟨o1, o2, o3, o4⟩ := A.own y hy
    by_cases h : y = q
    · subst h; rw [eq]; exact ⟨o1, by show O cl'.l; rw [hl]; exact o2, by show O cl'.a; rw [ha]; exact o3, o4⟩
    · rw [eo y h]; exact ⟨o1, o2, o3, o4⟩
  · by_cases h : t = q
    · subst h; rw [eq]; exact A.mp
    · rw [eo t h]; exact A.mp
  · by_cases h : t = q
    · subst h; rw [eq]; exact A.rp
    · rw [eo t h]; exact A.rp
  · rintro y ⟨hy, hyx⟩
    by_cases h : y = q
    · subst h
      rw [eq]
      rcases Lq with h' | h'
      · exact .inl h'
      · right; show m ≤ cl'.kids.length; omega
    · rw [eo y h]; exact L y hy hyx h

/-- The call of remove. -/
theorem drop_call (A : TA w t mp rp M O N nd wd S sh) {q x : Nat} (hq : N q) (hx : x ∈ (nd q).cl.kids) :
    Calls Try.prog ((nd q).cl.fn 117 149) #[ptr (nd q).cl.l, .int .u8 ((nd x).fb.toNat : Int)] w (RemP w (fun c => (nd c).fb) (nd q).cl x) :=
  remove_any w _ (nd q).cl x _ (A.T.H q hq).raw (A.T.I.kb A.T.H hq) hx rfl

theorem PathOk.mem (I : Inv t N nd wd S sh) {l : List Nat} (h : PathOk t nd l) : ∀ (i p : Nat), l[i]? = some p → N p := by
  intro i
  induction i with
  | zero =>
    intro p hp
    rw [h.1] at hp
    injection hp with hp
    rw [← hp]; exact I.root_mem
  | succ i ih =>
    intro p hp
    have hlt := (List.getElem?_eq_some_iff.1 hp).1
    have hi : l[i]? = some l[i] := List.getElem?_eq_getElem (by omega)
    exact (I.kid _ (ih _ hi) p (h.2 i _ p hi hp)).1

/-- Beneath the way's nodes that have no item and one child at most there is no item. -/
theorem chain_none (I : Inv t N nd wd S sh) {l : List Nat} (hl : PathOk t nd l) {j : Nat} (hlast : ∀ q, l[l.length - 1]? = some q → (nd q).cl.kids = [])
    (h : ∀ (k p : Nat), j < k → l[k]? = some p → (nd p).it = none ∧ (nd p).cl.kids.length < 2) : ∀ (d k p y : Nat), k + d = l.length - 1 → j < k → l[k]? = some p → N y → wd p <+: wd y → (nd y).it = none := by
  intro d
  induction d with
  | zero =>
    intro k p y hk hj hp hy hpre
    have hN := hl.mem I k p hp
    rcases I.desc hN hy hpre with h' | ⟨c, hc, _⟩
    · rw [h']; exact (h k p hj hp).1
    · rw [hlast p (by rw [← hk]; exact hp)] at hc; cases hc
  | succ d ih =>
    intro k p y hk hj hp hy hpre
    have hN := hl.mem I k p hp
    rcases I.desc hN hy hpre with h' | ⟨c, hc, h'⟩
    · rw [h']; exact (h k p hj hp).1
    · have hlt : k + 1 < l.length := by omega
      have hn : l[k + 1]? = some l[k + 1] := List.getElem?_eq_getElem hlt
      have hkid := hl.2 k p _ hp hn
      have hone := (h k p hj hp).2
      have e : c = l[k + 1] := by
        cases hkk : (nd p).cl.kids with
        | nil => rw [hkk] at hc; cases hc
        | cons a r =>
          rw [hkk] at hc hkid hone
          have hr : r = [] := List.length_eq_zero_iff.1 (by simp at hone; omega)
          subst hr
          simp at hc hkid
          rw [hc, hkid]
      exact ih (k + 1) _ y (by omega) (by omega) hn hy (by rw [← e]; exact h')

/-- What Delete leaves. -/
def DelS (w : World) (t : Nat) (mp : Int) (rp : List UInt8) (M : List UInt8 → Option Int) (O : Nat → Prop) (w' : World) : Prop :=
  ∃ O', TrieAt w' t 1 mp rp M O' ∧ (∀ k, O' k → O k ∨ (w.heap.size ≤ k ∧ k < w'.heap.size)) ∧ Tch w w' O
end

/-! ### pointers held against each other -/
theorem infoTrie : (Try.prog.info? 82).map (fun i => i.size) = some 5 := by kernel_rfl
theorem neq_same (p : Nat) (W : World) : (binOp .neq 50 (.pointer (some ⟨p, 0, none⟩)) (.pointer (some ⟨p, 0, none⟩))).run Try.prog W = .ok (.bool false) W := by
  obtain ⟨j, hj, _⟩ := Option.map_eq_some_iff.1 infoTrie
  exact Lib.run_neq_ptr_same W _ Try.underlying50 hj
theorem neq_other {p q : Nat} {W : World} (hne : p ≠ q) {a b : Nd} (hp : W.heap[p]? = some a.obj) (hq : W.heap[q]? = some b.obj) : (binOp .neq 50 (.pointer (some ⟨p, 0, none⟩)) (.pointer (some ⟨q, 0, none⟩))).run Try.prog W = .ok (.bool true) W := by
  obtain ⟨j, hj, hs⟩ := Option.map_eq_some_iff.1 infoTrie
  have h : ∀ d : Nat, (Op.equalIn (d + 1) 50 (.pointer (some ⟨p, 0, none⟩)) (.pointer (some ⟨q, 0, none⟩))).run Try.prog W = .ok false W := fun d => by
    have h1 := run_sameAddr_other (P := Try.prog) W (a := ⟨p, 0, none⟩) (b := ⟨q, 0, none⟩) (fun e => hne (by injection e)) hp hq
    simp [Op.equalIn, run_underlying Try.underlying50, sizeOf, typeInfo, hj, hs, h1]
  simp only [binOp]
  simp [Op.equal, Op.maxDepth, h 9999]

/-- A struct of a node stored whole. -/
def st5 (w : World) (p : Nat) (v0 v1 v2 v3 v4 : Value) : World := ((((w.setCell ⟨p, 0, none⟩ v0).setCell ⟨p, 1, none⟩ v1).setCell ⟨p, 2, none⟩ v2).setCell ⟨p, 3, none⟩ v3).setCell ⟨p, 4, none⟩ v4
theorem st5_at {w : World} {p : Nat} {a0 a1 a2 a3 a4 : Value} (h : w.heap[p]? = some (.cells #[a0, a1, a2, a3, a4] 82 (0, 0))) (v0 v1 v2 v3 v4 : Value) : (st5 w p v0 v1 v2 v3 v4).heap[p]? = some (.cells #[v0, v1, v2, v3, v4] 82 (0, 0)) := by
  unfold st5
  rw [heap_set (heap_set (heap_set (heap_set (heap_set h _) _) _) _) _]
  rfl
theorem st5_ne {w : World} {p k : Nat} (v0 v1 v2 v3 v4 : Value) (h : k ≠ p) : (st5 w p v0 v1 v2 v3 v4).heap[k]? = w.heap[k]? := by
  unfold st5
  rw [heap_set_ne h, heap_set_ne h, heap_set_ne h, heap_set_ne h, heap_set_ne h]
theorem st5_size {w : World} {p : Nat} {v0 v1 v2 v3 v4 : Value} : (st5 w p v0 v1 v2 v3 v4).heap.size = w.heap.size := by unfold st5; simp
theorem st5_tch {w : World} {p : Nat} {v0 v1 v2 v3 v4 : Value} : Tch w (st5 w p v0 v1 v2 v3 v4) (fun k => k = p) :=
  (((((Tch.refl w (fun k => k = p)).setCell ⟨p, 0, none⟩ _ (fun _ => rfl)).setCell ⟨p, 1, none⟩ _ (fun _ => rfl)).setCell ⟨p, 2, none⟩ _ (fun _ => rfl)).setCell ⟨p, 3, none⟩ _ (fun _ => rfl)).setCell ⟨p, 4, none⟩ _ (fun _ => rfl)
theorem st5_eq {w : World} {p : Nat} {v0 v1 v2 v3 v4 : Value} : ((((w.setCell ⟨p, 0, none⟩ v0).setCell ⟨p, 1, none⟩ v1).setCell ⟨p, 2, none⟩ v2).setCell ⟨p, 3, none⟩ v3).setCell ⟨p, 4, none⟩ v4 = st5 w p v0 v1 v2 v3 v4 := rfl

attribute [irreducible] st5

end Go.Proofs.Ytmdbnjepajifpaa

/- Delete takes a key that is there out of a trie. -/
namespace Go.Proofs.Ytmdbnjepajifpaa
open Go.RowKit Go.Proofs.YtmdbnjepajifpaaW.PrintWords Go.Proofs.YtmdbnjepajifpaaW.PrintLast Go.Proofs.YtmdbnjepajifpaaW.PrintMore

/-- What is known once the item is struck: the trie without the key (its shape may hold a node of no use, the last of the way), the way in memory. -/
structure DelH (w W : World) (t : Nat) (mp : Int) (rp : List UInt8) (M : List UInt8 → Option Int) (O : Nat → Prop) (K : List UInt8) (N : Nat → Prop) (nd : Nat → Nd) (wd : Nat → List UInt8) (S : Nat → List UInt8) (sh : Nat → Nat) (l : List Nat) (q g : Nat) : Prop where
  A : TA W t mp rp (setM M K none) O N nd wd S sh
  L : LfX 1 N nd q
  path : PathOk t nd l
  last : l[l.length - 1]? = some q
  two : 2 ≤ l.length
  le : l.length ≤ 11
  wq : wd q = K
  iq : (nd q).it = none
  T : Tch w W O
  ha : setM M K none [65] ≠ none
  hz : setM M K none [90] ≠ none
  row : ∀ (i p : Nat), l[i]? = some p → W.cell? ⟨g, i, none⟩ = some (ptr p)
  g0 : w.heap.size ≤ g
  g1 : g < W.heap.size

section
variable {w W : World} {t : Nat} {mp : Int} {rp : List UInt8} {M : List UInt8 → Option Int} {O : Nat → Prop} {K : List UInt8} {N : Nat → Prop} {nd : Nat → Nd} {wd : Nat → List UInt8} {S : Nat → List UInt8} {sh : Nat → Nat} {l : List Nat} {q g : Nat}
theorem DelH.dr (H : DelH w W t mp rp M O K N nd wd S sh l q g) (n : Nat) : DelH w (W.drewN n) t mp rp M O K N nd wd S sh l q g :=
  ⟨H.A.dr n, H.L, H.path, H.last, H.two, H.le, H.wq, H.iq, H.T.drn n, H.ha, H.hz, H.row, H.g0, H.g1⟩
theorem DelH.mem (H : DelH w W t mp rp M O K N nd wd S sh l q g) {i p : Nat} (h : l[i]? = some p) : N p := H.path.mem H.A.T.I i p h
end


section
variable {w w1 W W2 : World} {t : Nat} {mp : Int} {rp : List UInt8} {M M1 : List UInt8 → Option Int} {O0 O : Nat → Prop} {K : List UInt8} {N : Nat → Prop} {nd : Nat → Nd} {wd : Nat → List UInt8} {S : Nat → List UInt8} {sh : Nat → Nat} {l : List Nat} {q g p P c : Nat}

theorem delH_of (A : TA w1 t mp rp M O N nd wd S sh) (L : Lf 1 N nd) (hq : N q) (hT : Tch w w1 (fun _ => False)) (hok : PathOk t nd l) (hlast : l[l.length - 1]? = some q) (h2 : 2 ≤ l.length) (hle : l.length ≤ 11) (hwq : wd q = K)
    (ha : M [65] ≠ none) (hz : M [90] ≠ none) (hKa : K ≠ [65]) (hKz : K ≠ [90]) {cur : Array Value} (hg0 : w.heap.size ≤ g) (hgb : w1.heap[g]? = some (.cells cur 50 (0, 0))) (hrow : ∀ (i p : Nat), l[i]? = some p → w1.cell? ⟨g, i, none⟩ = some (ptr p)) (_hlt : ∀ k, O k → k < w.heap.size) :
    DelH w (w1.setCell ⟨q, 1, none⟩ .nilIface) t mp rp M O K N (upd nd q { nd q with it := none }) wd S sh l q g := by
  have hA := A.setItem (w' := w1.setCell ⟨q, 1, none⟩ .nilIface) hq none rfl
  rw [hwq] at hA
  have ek : ∀ x, (upd nd q { nd q with it := none } x).cl = (nd x).cl := fun x => by
    by_cases h : x = q
    · subst h; rw [upd_self]
    · rw [upd_ne _ _ h]
  have hqg : g ≠ q := (ne_of_type (A.T.H q hq).obj hgb (by decide)).symm
  refine ⟨hA, fun x hx hne => ?_, ⟨hok.1, fun i p c hp hc => by rw [ek]; exact hok.2 i p c hp hc⟩, hlast, h2, hle, hwq, by rw [upd_self], (hT.mono (fun _ _ h => h.elim)).setCell _ _ (fun _ => (A.own q hq).1), ?_, ?_, fun i p hp => ?_, hg0, ?_⟩
  · rw [upd_ne _ _ hne]; exact L x hx
  · simp only [setM, if_neg (Ne.symm hKa)]; exact ha
  · simp only [setM, if_neg (Ne.symm hKz)]; exact hz
  · rw [World.cell?_of_block (heap_set_ne (i := 1) hqg _)]; exact hrow i p hp
  · have := lt_of_heap hgb; simpa using this

theorem PathOk.pre (I : Inv t N nd wd S sh) (h : PathOk t nd l) {i a : Nat} (ha : l[i]? = some a) : ∀ (d b : Nat), l[i + d]? = some b → wd a <+: wd b := by
  intro d
  induction d with
  | zero =>
    intro b hb
    rw [Nat.add_zero, ha] at hb
    injection hb with hb
    rw [hb]; exact List.prefix_refl _
  | succ d ih =>
    intro b hb
    have hlt := (List.getElem?_eq_some_iff.1 hb).1
    have hn : l[i + d]? = some l[i + d] := List.getElem?_eq_getElem (by omega)
    exact (ih _ hn).trans (I.kid_pre (h.mem I _ _ hn) (h.2 (i + d) _ b hn hb))

theorem DelH.drop (H : DelH w W t mp rp M O K N nd wd S sh l q g) {j p x : Nat} (hj : l[j]? = some p) (hx : l[j + 1]? = some x) (HB : ∀ (k p : Nat), j < k → l[k]? = some p → (nd p).it = none ∧ (nd p).cl.kids.length < 2)
    (hex : (nd p).it ≠ none ∨ 2 ≤ (nd p).cl.kids.length) (hkz : (nd q).cl.kids.length = 0) {e : Ending} {w' : World} (R : RemP W (fun c => (nd c).fb) (nd p).cl x e w') :
    e = .returned (.tuple #[]) ∧ ∃ N2 nd2, TA w' t mp rp (setM M K none) O N2 nd2 wd S sh ∧ Lf 1 N2 nd2 ∧ Tch w w' O ∧ N2 p ∧ (∀ P, 0 < j → l[j - 1]? = some P → N2 P ∧ p ∈ (nd2 P).cl.kids) := by
  have I := H.A.T.I
  have hp := H.mem hj
  have hxk := H.path.2 j p x hj hx
  have hxN := H.mem hx
  have hjl := (List.getElem?_eq_some_iff.1 hx).1
  have hlp := I.kid_longer hp hxk
  have hxq : wd x <+: wd q := H.path.pre I hx (l.length - 1 - (j + 1)) q (by rw [show j + 1 + (l.length - 1 - (j + 1)) = l.length - 1 by omega]; exact H.last)
  have hno : ∀ y, N y → wd x <+: wd y → (nd y).it = none := fun y hy h =>
    chain_none I H.path (j := j) (fun q' hq' => by rw [H.last] at hq'; injection hq' with hq'; rw [← hq']; exact List.length_eq_zero_iff.1 hkz) HB (l.length - 1 - (j + 1)) (j + 1) x y (by omega) (by omega) hx hy h
  have he : e = .returned (.tuple #[]) := by obtain ⟨_, he, _⟩ := R; exact he
  obtain ⟨cl', A2, L2, hT2⟩ := drop_TA (M2 := setM M K none) (m := 1) H.A hp hxk R (fun _ _ _ => rfl) (fun k hk => ⟨hk, fun h => by
    obtain ⟨y, hy, e⟩ := H.A.C.of k hk
    rw [← e] at h hk
    rw [H.A.C.at_ y hy, hno y hy h] at hk
    exact hk rfl⟩) (fun y hy hyx _ => H.L y hy (fun e => hyx (by rw [e]; exact hxq))) hex
  refine ⟨he, _, _, A2, L2, H.T.trans hT2 (fun _ _ h => h), ⟨hp, fun h => by have := h.length_le; omega⟩, fun P hj0 hP => ?_⟩
  have hPN := H.mem hP
  have hpk := H.path.2 (j - 1) P p hP (by rw [show j - 1 + 1 = j by omega]; exact hj)
  have hlP := I.kid_longer hPN hpk
  refine ⟨⟨hPN, fun h => by have := h.length_le; omega⟩, ?_⟩
  rw [upd_ne _ _ (fun e => by rw [e] at hlP; omega)]
  exact hpk

/-- What is known at the label: a node, its parent, a trie in good shape. -/
structure TailH (w W : World) (t : Nat) (mp : Int) (rp : List UInt8) (M1 : List UInt8 → Option Int) (O : Nat → Prop) (N : Nat → Prop) (nd : Nat → Nd) (wd : Nat → List UInt8) (S : Nat → List UInt8) (sh : Nat → Nat) (p P : Nat) : Prop where
  A : TA W t mp rp M1 O N nd wd S sh
  L : Lf 1 N nd
  hP : N P
  hp : p ∈ (nd P).cl.kids
  ha : M1 [65] ≠ none
  hz : M1 [90] ≠ none
  T : Tch w W O

theorem compact_TA (A : TA W t mp rp M1 O N nd wd S sh) (hp : N p) : Calls Try.prog 68 #[ptr p] W (CompactP W p (nd p) nd) := by
  have h1 := A.T.pxl hp
  refine compact_any W p (nd p) nd (A.T.H p hp) (A.T.np hp) (fun c hc => ?_) (by omega)
  obtain ⟨h2, h3, h4, h5⟩ := A.T.I.kid p hp c hc
  have h6 := A.T.pxl h2
  exact ⟨A.T.H c h2, A.T.np h2, fun e => by have := A.T.I.kid_longer hp hc; rw [e] at this; omega, by omega, h5⟩
theorem Joined.drw {d' : Nd} (J : Joined W W2 O N nd p c d') : Joined W W2.drew O N nd p c d' :=
  ⟨J.one, J.itp, J.np, J.px, J.cl, J.it, J.itc, J.laid, J.here.dr 1, fun r h1 h2 => (J.rest r h1 h2).dr 1, J.sb, J.T.drw⟩
theorem copy_same {O2 : Nat → Prop} (H : TailH w W2 t mp rp M1 O N nd wd S sh p P) {W5 : World} {N2 : Nat → Prop} {nd2 : Nat → Nd} {wd2 : Nat → List UInt8} {S2 : Nat → List UInt8} {sh2 : Nat → Nat} (A2 : TA W5 t mp rp M1 O2 N2 nd2 wd2 S2 sh2) (L2 : Lf 1 N2 nd2) (hP : N2 P)
    (hO : ∀ k, O2 k → O k ∨ (W2.heap.size ≤ k ∧ k < W5.heap.size)) (hT : Tch W2 W5 O) :
    DelS w t mp rp M1 O (st5 W5 P (.slice (some ⟨(nd2 P).sb, (nd2 P).so, none⟩) (nd2 P).px.length (nd2 P).sc) (itv (nd2 P).it) (.int .i64 (nd2 P).mp) (.int .i64 (nd2 P).mc) (.iface (nd2 P).cl.ty (ptr (nd2 P).cl.l))) := by
  have hN := A2.T.H P hP
  have hnp := A2.T.np hP
  have hO' : O P := H.A.own P H.hP |>.1
  have s0 := H.T.size
  have h5 : W5.heap[P]? = some (.cells #[.slice (some ⟨(nd2 P).sb, (nd2 P).so, none⟩) (nd2 P).px.length (nd2 P).sc, itv (nd2 P).it, .int .i64 (nd2 P).mp, .int .i64 (nd2 P).mc, .iface (nd2 P).cl.ty (ptr (nd2 P).cl.l)] 82 (0, 0)) := by
    rw [hN.obj, Nd.obj, Nd.pv, hnp]; rfl
  refine ⟨O2, ⟨N2, nd2, wd2, S2, sh2, A2.later (fun k _ => ?_) (by rw [st5_size]; exact Nat.le_refl _), L2⟩, fun k hk => ?_, H.T.trans (hT.trans (st5_tch.mono (U := O) (fun b _ h => by rw [h]; exact hO')) (fun _ _ h => h)) (fun _ _ h => h)⟩
  · by_cases h : k = P
    · subst h; rw [st5_at h5, h5]
    · rw [st5_ne _ _ _ _ _ h]
  · rw [st5_size]
    rcases hO k hk with h | h
    · exact .inl h
    · exact .inr ⟨by omega, h.2⟩

theorem copy_kid {O2 : Nat → Prop} (H : TailH w W2 t mp rp M1 O N nd wd S sh p P) {w4 W5 : World} {N2 : Nat → Prop} {nd2 : Nat → Nd} {wd2 : Nat → List UInt8} {S2 : Nat → List UInt8} {sh2 : Nat → Nat} (A2 : TA w4 t mp rp M1 O2 N2 nd2 wd2 S2 sh2) (L2 : Lf 1 N2 nd2) (hP : N2 P) (hPt : P ≠ t)
    (hO : ∀ k, O2 k → O k ∨ (W2.heap.size ≤ k ∧ k < w4.heap.size)) (hT : Tch W2 w4 O) {c2 : Nat} {d2 : Nd} (J : Joined w4 W5 O2 N2 nd2 P c2 d2) :
    DelS w t mp rp M1 O (st5 W5 P (.slice (some ⟨d2.sb, d2.so, none⟩) d2.px.length d2.sc) .nilIface (.int .i64 d2.mp) (.int .i64 d2.mc) (.iface d2.cl.ty (ptr d2.cl.l))) := by
  have hcP : c2 ∈ (nd2 P).cl.kids := by rw [J.one]; simp
  have hPc : P ≠ c2 := fun e => by have := A2.T.I.kid_longer hP hcP; rw [← e] at this; omega
  have hN := J.rest P hP hPc
  have hO' : O P := H.A.own P H.hP |>.1
  have s0 := H.T.size
  have s1 := J.T.size
  have s2 := hT.size
  have h5 : (st5 W5 P (.slice (some ⟨d2.sb, d2.so, none⟩) d2.px.length d2.sc) .nilIface (.int .i64 d2.mp) (.int .i64 d2.mc) (.iface d2.cl.ty (ptr d2.cl.l))).heap[P]? = some d2.obj := by
    rw [st5_at hN.obj, Nd.obj, Nd.pv, J.np, J.it]; rfl
  have hT5 : Tch w4 (st5 W5 P (.slice (some ⟨d2.sb, d2.so, none⟩) d2.px.length d2.sc) .nilIface (.int .i64 d2.mp) (.int .i64 d2.mc) (.iface d2.cl.ty (ptr d2.cl.l))) O2 :=
    J.T.trans (st5_tch.mono (U := O2) (fun b _ h => by rw [h]; exact (A2.own P hP).1)) (fun _ _ h => h)
  obtain ⟨N3, nd3, wd3, S3, sh3, O3, A3, L3, hO3⟩ := absorb_TA A2 L2 hP hPt J h5 (fun k h => st5_ne _ _ _ _ _ h) st5_size hT5
  refine ⟨O3, ⟨N3, nd3, wd3, S3, sh3, A3, L3⟩, fun k hk => ?_, H.T.trans (hT.trans hT5 (fun b hb h => ?_)) (fun _ _ h => h)⟩
  · have s5 := hT5.size
    rcases hO3 k hk with h | h
    · rcases hO k h with h' | h'
      · exact .inl h'
      · exact .inr ⟨by omega, by omega⟩
    · exact .inr ⟨by omega, h.2⟩
  · rcases hO b h with h' | h'
    · exact h'
    · omega
theorem TailH.mem (H : TailH w W t mp rp M1 O N nd wd S sh p P) : N p := (H.A.T.I.kid P H.hP p H.hp).1
theorem TailH.self (H : TailH w W t mp rp M1 O N nd wd S sh p P) (n : Nat) : DelS w t mp rp M1 O (W.drewN n) :=
  ⟨O, ⟨N, nd, wd, S, sh, H.A.dr n, H.L⟩, fun _ h => .inl h, H.T.drn n⟩
end

set_option maxRecDepth 100000 in
set_option maxHeartbeats 6400000 in
theorem delete_any (w : World) (t : Nat) (mp : Int) (rp : List UInt8) (M : List UInt8 → Option Int) (O : Nat → Prop) (T : TrieAt w t 1 mp rp M O) (kb kc : Nat) (K : List UInt8) (hK : KS w kb 0 K) (hkc : K.length ≤ kc) (hk0 : 0 < K.length) (hk1 : K.length ≤ 10)
    (hM : M K ≠ none) (ha : M [65] ≠ none) (hz : M [90] ≠ none) (hKa : K ≠ [65]) (hKz : K ≠ [90]) :
    Calls Try.prog 46 #[ptr t, .slice (some ⟨kb, 0, none⟩) K.length kc] w (fun e w' => e = .returned (.bool true) ∧ DelS w t mp rp (setM M K none) O w') := by
  obtain ⟨N, nd, wd, S, sh, A, L⟩ := T
  have hpath := path_any w A kb 0 kc K hK hkc hk1 hM
  have c0 := (A.T.H t A.T.I.root_mem).sl A.T.rn
  have hnil := fun (W : World) (a : Addr) (n c : Nat) => Lib.run_eql_slice_nil (P := Try.prog) W 53 5 (some a) n c 0 0 Try.underlying53
  have HP := Lib.hid hpath
  have HA := Lib.hid A
  have HLF := Lib.hid L
  have HM := Lib.hid (⟨hM, ha, hz, hKa, hKz⟩ : _ ∧ _ ∧ _ ∧ _ ∧ _)
  clear hpath A L hK hM ha hz hKa hKz
  go_enter Try.func46, Try.ntmps46
  go_wp2_with fail
  refine wp_scope1 rfl ?_
  intro J0 hJ0
  have HJ0 := Lib.hid hJ0
  clear hJ0
  go_wp2_with fail
  refine HP.out.mono ?_
  rintro e w1 ⟨ps, q, v, lo, rfl, hR, hok, hwq, hlen, hT1⟩
  obtain ⟨g, c, rfl, hg, hgc, ⟨cur, hgb⟩, hrow⟩ := ptr_row hR (by simp)
  obtain ⟨l, hl⟩ : ∃ l, ps ++ [q] = l := ⟨_, rfl⟩
  have A1 := HA.out.tch hT1
  have hlast : l[l.length - 1]? = some q := by rw [← hl]; simp
  rw [hl] at hok hlen hgc hrow ⊢
  have hqN : N q := hok.mem A1.T.I _ q hlast
  have hqt : q ≠ t := fun e => by
    have := (root_two A1 HM.out.2.1 HM.out.2.2.1).2.1
    rw [e, this] at hwq
    rw [← hwq] at hk0
    simp at hk0
  have hl2 : 2 ≤ l.length := by
    rcases Nat.lt_or_ge l.length 2 with h | h
    · exfalso
      have h1 : l.length - 1 = 0 := by omega
      rw [h1, hok.1] at hlast
      injection hlast with hlast
      exact hqt hlast.symm
    · exact h
  obtain ⟨n, hn⟩ : ∃ n, l.length = n + 2 := ⟨l.length - 2, by omega⟩
  obtain ⟨P, hP⟩ : ∃ P, l[n]? = some P := ⟨_, List.getElem?_eq_getElem (by omega)⟩
  have rq : w1.cell? ⟨g, n + 1, none⟩ = some (ptr q) := hrow (n + 1) q (by rw [show n + 1 = l.length - 1 by omega]; exact hlast)
  have rP : w1.cell? ⟨g, n, none⟩ = some (ptr P) := hrow n P hP
  have hq1 := A1.T.H q hqN
  have q1 := hq1.c1
  obtain ⟨x, hx⟩ : ∃ x, (nd q).it = some x := by
    have := A1.C.at_ q hqN
    rw [hwq] at this
    cases h : (nd q).it with
    | none => rw [h] at this; exact absurd this HM.out.1
    | some x => exact ⟨x, rfl⟩
  rw [hx] at q1
  simp only [itv] at q1
  have q4 := hq1.c4
  unfold CL.val at q4
  have qf := hq1.fr 1
  have hn9 : n ≤ 9 := by omega
  rw [hn]
  have m1 := m_length (nd q).cl
  have m2 := f_length (nd q).cl
  have HN := Lib.hid hn
  have HPP := Lib.hid hP
  have HLAST := Lib.hid hlast
  have HD := Lib.hid (delH_of A1 HLF.out hqN hT1 hok hlast hl2 hlen hwq HM.out.2.1 HM.out.2.2.1 HM.out.2.2.2.1 HM.out.2.2.2.2 hg hgb hrow HA.out.lt)
  clear hn hP hlast hx hwq hR hok hlen hgc hrow hl c0
  go_wp2_with fail
  obtain ⟨W1, hW1⟩ : ∃ W1, w1.setCell ⟨q, 1, none⟩ .nilIface = W1 := ⟨_, rfl⟩
  have ecl : (nd q).cl = (upd nd q { nd q with it := none } q).cl := by rw [upd_self]
  rw [hW1] at HD ⊢
  rw [ecl] at m1 m2 ⊢
  generalize upd nd q { nd q with it := none } = nd1 at HD m1 m2 ⊢
  clear hW1 ecl q1 q4 qf rq rP hq1 A1 hT1 hgb hg
  have hqN1 := HD.out.mem HD.out.last
  refine (len_q W1 (nd1 q).cl (HD.out.A.T.H q hqN1).raw 0).mono ?_
  rintro e w2 ⟨rfl, n1, rfl⟩
  by_cases hkz : (nd1 q).cl.kids.length = 0
  · have e1 : (((nd1 q).cl.kids.length : Int) != 0) = false := by rw [bne_eq_false_iff_eq]; omega
    have HKZ := Lib.hid hkz
    clear hkz
    go_wp2_with fail
    clear m1 m2 e1
    go_loopw [10] (fun i wr => ∃ (j n2 : Nat), j ≤ n + 1 ∧ i = .int .i64 j ∧ wr = W1.drewN n2 ∧ Hid (∀ (k p : Nat), j < k → l[k]? = some p → (nd1 p).it = none ∧ (nd1 p).cl.kids.length < 2)) (fun i _ => (intOf i).toNat)
    case atStart =>
      refine ⟨n + 1, n1, Nat.le_refl _, by go_num, rfl, (?_ : ∀ (k p : Nat), _)⟩
      intro k p hk hp
      have := (List.getElem?_eq_some_iff.1 hp).1
      have := HN.out
      omega
    case round =>
      obtain ⟨j, n2, hj, rfl, rfl, HB⟩ := hrel
      obtain ⟨p, hp⟩ : ∃ p, l[j]? = some p := ⟨_, List.getElem?_eq_getElem (by have := HN.out; omega)⟩
      have hpN := HD.out.mem hp
      have hp1 := HD.out.A.T.H p hpN
      have r1 := HD.out.row j p hp
      have p1 := hp1.c1
      have p4 := hp1.c4
      unfold CL.val at p4
      have m1 := m_length (nd1 p).cl
      have m2 := f_length (nd1 p).cl
      have g1 : (j : Int) < (n : Int) + 2 := by omega
      have HLEN := Lib.hid (len_q W1 (nd1 p).cl hp1.raw)
      have HJP := Lib.hid hp
      clear hp hp1
      by_cases hex : (nd1 p).it ≠ none ∨ 2 ≤ (nd1 p).cl.kids.length
      · have HEX := Lib.hid hex
        cases hit : (nd1 p).it with
        | some u =>
          rw [hit] at p1
          simp only [itv] at p1
          have HIT := Lib.hid hit
          clear hex hit
          have hjn : j ≤ n := by
            rcases Nat.lt_or_ge n j with h | h
            · exfalso
              have h1 : j = l.length - 1 := by have := HN.out; omega
              have h2 := HJP.out
              rw [h1, HD.out.last] at h2
              injection h2 with h2
              subst h2
              rcases HEX.out with h3 | h3
              · exact h3 HD.out.iq
              · have := HKZ.out; omega
            · exact h
          obtain ⟨x, hx⟩ : ∃ x, l[j + 1]? = some x := ⟨_, List.getElem?_eq_getElem (by have := HN.out; omega)⟩
          have HXX := Lib.hid hx
          clear hx
          by_cases hj0 : j = 0
          · subst hj0
            go_wp2_with (first | go_step3 | with_reducible refine j1_i0 ?_)
            have HD4 := Lib.hid (HD.out.dr n2)
            generalize W1.drewN n2 = Wr at HD4 ⊢
            obtain ⟨W3, hW3⟩ : ∃ W3, Wr.drew = W3 := ⟨_, rfl⟩
            have HD3 : Hid (DelH w W3 t mp rp M O K N nd1 wd S sh l q g) := by rw [← hW3]; exact HD4.out.dr 1
            have hW3 := Lib.hid hW3
            have hxN := HD3.out.mem HXX.out
            have hxk := HD3.out.path.2 0 p x HJP.out HXX.out
            have hxpx : 0 < (nd1 x).px.length := List.length_pos_iff.2 (HD3.out.A.T.I.kid p hpN x hxk).2.2.2
            have P4 : W3.cell? ⟨p, 4, none⟩ = some (.iface (nd1 p).cl.ty (ptr (nd1 p).cl.l)) := (HD3.out.A.T.H p hpN).c4
            have rx : W3.cell? ⟨g, 1, none⟩ = some (ptr x) := HD3.out.row 1 x HXX.out
            have x0 := (HD3.out.A.T.H x hxN).sl (HD3.out.A.T.np hxN)
            have xb : W3.cell? ⟨(nd1 x).sb, (nd1 x).so, none⟩ = some (.int .u8 ((nd1 x).fb.toNat : Int)) := by
              refine ((HD3.out.A.T.H x hxN).ks (HD3.out.A.T.np hxN)).head ?_
              unfold Nd.fb
              cases hxx : (nd1 x).px with
              | nil => rw [hxx] at hxpx; simp at hxpx
              | cons a r => rfl
            clear m1 m2 r1 p1 p4
            have m1 := m_remove (nd1 p).cl
            have m2 := f_remove (nd1 p).cl
            have g6 : (1 : Int) < (n : Int) + 2 := by omega
            have w1 : IntKind.i64.wrap 1 = 1 := by decide
            refine wp_region_tail 16 (by kernel_rfl) (by kernel_rfl) hW3.out ?_
            simp only [List.take_succ_cons, List.take_zero, List.drop_succ_cons, List.drop_zero]
            repeat still_step
            refine wpStill_nil ?_
            go_wp2_with fail
            clear w1
            refine (drop_call HD3.out.A hpN hxk).mono ?_
            rintro e W2 hR
            obtain ⟨rfl, N3, nd3, A3, L3, T3, hp3, _⟩ := HD3.out.drop HJP.out HXX.out HB.out HEX.out HKZ.out hR
            obtain rfl : p = t := by have := HD3.out.path.1; rw [HJP.out] at this; injection this
            have HA3 := Lib.hid (⟨A3, L3, T3, hp3⟩ : _ ∧ _ ∧ _ ∧ _)
            clear hR A3 L3 T3 hp3 P4 rx x0 xb m1 m2
            go_wp2_with (first | go_step3 | with_reducible refine j1_i0 ?_)
            refine (compact_TA HA3.out.1 HA3.out.2.2.2).mono ?_
            rintro e w3 hcp
            rcases hcp with ⟨rfl, n3, rfl⟩ | ⟨c, J⟩
            · have hsame := neq_same p
              go_wp2_with (first | go_step3 | with_reducible refine j1_i0 ?_)
              first | rw [Exit.noGoto_ret] | rw [j1_r]
              go_ret
              exact ⟨rfl, O, ⟨N3, nd3, wd, S, sh, HA3.out.1.dr n3, HA3.out.2.1⟩, fun _ h => .inl h, HA3.out.2.2.1.drn n3⟩
            · exfalso
              have h1 := (root_two HA3.out.1 HD3.out.ha HD3.out.hz).2.2
              rw [J.2.1] at h1
              simp at h1
          · obtain ⟨jj, rfl⟩ : ∃ m, j = m + 1 := ⟨j - 1, by omega⟩
            obtain ⟨PP, hPP⟩ : ∃ P, l[jj]? = some P := ⟨_, List.getElem?_eq_getElem (by have := HN.out; omega)⟩
            have r2 := HD.out.row jj PP hPP
            have HPJ := Lib.hid hPP
            have g2 : (jj : Int) < (n : Int) + 2 := by omega
            clear hPP
            go_wp2_with (first | go_step3 | with_reducible refine j1_i0 ?_)
            have HD4 := Lib.hid (HD.out.dr n2)
            generalize W1.drewN n2 = Wr at HD4 ⊢
            obtain ⟨W3, hW3⟩ : ∃ W3, Wr.drew = W3 := ⟨_, rfl⟩
            have HD3 : Hid (DelH w W3 t mp rp M O K N nd1 wd S sh l q g) := by rw [← hW3]; exact HD4.out.dr 1
            have hW3 := Lib.hid hW3
            have hxN := HD3.out.mem HXX.out
            have hxk := HD3.out.path.2 (jj + 1) p x HJP.out HXX.out
            have hxpx : 0 < (nd1 x).px.length := List.length_pos_iff.2 (HD3.out.A.T.I.kid p hpN x hxk).2.2.2
            have P4 : W3.cell? ⟨p, 4, none⟩ = some (.iface (nd1 p).cl.ty (ptr (nd1 p).cl.l)) := (HD3.out.A.T.H p hpN).c4
            have rx : W3.cell? ⟨g, jj + 1 + 1, none⟩ = some (ptr x) := HD3.out.row (jj + 1 + 1) x HXX.out
            have x0 := (HD3.out.A.T.H x hxN).sl (HD3.out.A.T.np hxN)
            have xb : W3.cell? ⟨(nd1 x).sb, (nd1 x).so, none⟩ = some (.int .u8 ((nd1 x).fb.toNat : Int)) := by
              refine ((HD3.out.A.T.H x hxN).ks (HD3.out.A.T.np hxN)).head ?_
              unfold Nd.fb
              cases hxx : (nd1 x).px with
              | nil => rw [hxx] at hxpx; simp at hxpx
              | cons a r => rfl
            have g3 : (jj : Int) + 1 + 1 < (n : Int) + 2 := by omega
            clear m1 m2 r1 p1 p4 r2
            have m1 := m_remove (nd1 p).cl
            have m2 := f_remove (nd1 p).cl
            have n1 : (0 : Int) ≤ (jj : Int) + 1 + 1 := by omega
            have tn : ((jj : Int) + 1 + 1).toNat = jj + 1 + 1 := by omega
            have w1 : IntKind.i64.wrap ((jj : Int) + 1 + 1) = (jj : Int) + 1 + 1 := IntWalk.i64_in _ (by omega)
            refine wp_region_tail 16 (by kernel_rfl) (by kernel_rfl) hW3.out ?_
            simp only [List.take_succ_cons, List.take_zero, List.drop_succ_cons, List.drop_zero]
            repeat still_step
            refine wpStill_nil ?_
            go_wp2_with fail
            clear w1 tn n1
            refine (drop_call HD3.out.A hpN hxk).mono ?_
            rintro e W2 hR
            obtain ⟨rfl, N3, nd3, A3, L3, T3, hp3, hpar⟩ := HD3.out.drop HJP.out HXX.out HB.out HEX.out HKZ.out hR
            have hpar := hpar PP (by omega) HPJ.out
            have HTL : Hid (TailH w W2 t mp rp (setM M K none) O N3 nd3 wd S sh p PP) := (⟨A3, L3, hpar.1, hpar.2, HD3.out.ha, HD3.out.hz, T3⟩ : TailH w W2 t mp rp (setM M K none) O N3 nd3 wd S sh p PP)
            clear hR A3 L3 T3 hp3 hpar P4 rx x0 xb m1 m2
            go_wp2_with (first | go_step3 | with_reducible refine j1_i0 ?_)
            refine (compact_TA HTL.out.A HTL.out.mem).mono ?_
            rintro e w3 hcp
            rcases hcp with ⟨rfl, n2, rfl⟩ | ⟨c, J⟩
            · have hsame := neq_same p
              go_wp2_with fail
              first | rw [Exit.noGoto_ret] | rw [j1_r]
              go_ret
              exact ⟨rfl, HTL.out.self n2⟩
            · obtain ⟨d', hJ⟩ := join_mem HTL.out.A HTL.out.mem J
              obtain rfl : e = .returned (ptr c) := J.1
              have hcN : N3 c ∧ c ≠ p ∧ PP ≠ c := by
                have hcq : c ∈ (nd3 p).cl.kids := by rw [hJ.one]; simp
                have h1 := HTL.out.A.T.I.kid_longer HTL.out.mem hcq
                have h2 := HTL.out.A.T.I.kid_longer HTL.out.hP HTL.out.hp
                exact ⟨(HTL.out.A.T.I.kid p HTL.out.mem c hcq).1, fun e => by rw [e] at h1; omega, fun e => by rw [← e] at h1; omega⟩
              have hqc := hJ.rest p HTL.out.mem (fun e => hcN.2.1 e.symm)
              have hPc := hJ.rest PP HTL.out.hP hcN.2.2
              have hother := neq_other hcN.2.1 hJ.here.obj hqc.obj
              have hqpx : 0 < (nd3 p).px.length := List.length_pos_iff.2 (HTL.out.A.T.I.kid PP HTL.out.hP p HTL.out.hp).2.2.2
              obtain ⟨W3, hW3⟩ : ∃ W3, w3.drew = W3 := ⟨_, rfl⟩
              have P4 : W3.cell? ⟨PP, 4, none⟩ = some (.iface (nd3 PP).cl.ty (ptr (nd3 PP).cl.l)) := by rw [← hW3]; exact hPc.c4
              have p0 : W3.cell? ⟨p, 0, none⟩ = some (.slice (some ⟨(nd3 p).sb, (nd3 p).so, none⟩) (nd3 p).px.length (nd3 p).sc) := by rw [← hW3]; exact hqc.sl (HTL.out.A.T.np HTL.out.mem)
              have pb : W3.cell? ⟨(nd3 p).sb, (nd3 p).so, none⟩ = some (.int .u8 ((nd3 p).fb.toNat : Int)) := by
                rw [← hW3]
                refine (hqc.ks (HTL.out.A.T.np HTL.out.mem)).head ?_
                unfold Nd.fb
                cases hx : (nd3 p).px with
                | nil => rw [hx] at hqpx; simp at hqpx
                | cons a r => rfl
              have m1 := m_replace (nd3 PP).cl
              have m2 := f_replace (nd3 PP).cl
              have HJ := Lib.hid hJ
              have HW3 := Lib.hid hW3
              clear hJ J hcN hqc hPc hW3
              go_wp2_with fail
              refine wp_region_tail 13 (by kernel_rfl) (by kernel_rfl) HW3.out ?_
              simp only [List.take_succ_cons, List.take_zero, List.drop_succ_cons, List.drop_zero]
              repeat still_step
              refine wpStill_nil ?_
              go_wp2_with fail
              have HJ3 : Hid (Joined W2 W3 O N3 nd3 p c d') := by rw [← HW3.out]; exact HJ.out.drw
              refine (join_replace HTL.out.A HTL.out.hP HTL.out.hp HJ3.out).mono ?_
              rintro e w4 hR
              obtain ⟨N4, nd4, S2, sh2, O2, A2, L2, hP2, hO2, hT2⟩ := join_TA HTL.out.A HTL.out.L HTL.out.hP HTL.out.hp HJ3.out hR
              obtain rfl : e = .returned (.tuple #[]) := by obtain ⟨_, _, he, _⟩ := hR; exact he
              have HA2 := Lib.hid A2
              have HR2 := Lib.hid (⟨L2, hP2, hO2, hT2⟩ : _ ∧ _ ∧ _ ∧ _)
              clear hR A2 L2 hO2 hT2 hP2 P4 p0 pb m1 m2 hother
              go_wp2_with fail
              refine (compact_TA HA2.out HR2.out.2.1).mono ?_
              rintro e w5 hcp
              rcases hcp with ⟨rfl, n3, rfl⟩ | ⟨c2, J2⟩
              · have hPn := (HA2.out.T.H PP HR2.out.2.1).dr n3
                have hnp := HA2.out.T.np HR2.out.2.1
                have HB := Lib.hid (HA2.out.dr n3)
                have HTT : Hid (Tch W2 (w4.drewN n3) O) := HR2.out.2.2.2.drn n3
                have hsz : (w4.drewN n3).heap.size = w4.heap.size := rfl
                have HSZ := Lib.hid hsz
                generalize w4.drewN n3 = W5 at hPn HB HTT HSZ ⊢
                have P0 := hPn.sl hnp
                have P1 := hPn.c1
                have P2 := hPn.c2
                have P3 := hPn.c3
                have P4 := hPn.c4
                unfold CL.val at P4
                have F0 := hPn.fr 0
                have F1 := hPn.fr 1
                have F2 := hPn.fr 2
                have F3 := hPn.fr 3
                have F4 := hPn.fr 4
                have hst := fun (W : World) (a : Addr) (md : Mode) => run_store Try.prog W a (itv (nd4 PP).it) md (itv_one _)
                have HPN := Lib.hid hPn
                clear hPn hnp hsz
                go_wp2_with fail
                first | rw [Exit.noGoto_ret] | rw [j1_r]
                go_ret
                rw [st5_eq]
                exact ⟨rfl, copy_same HTL.out HB.out HR2.out.1 HR2.out.2.1 (fun k hk => by rw [HSZ.out]; exact HR2.out.2.2.1 k hk) HTT.out⟩
              · have hPt : PP ≠ t := fun e => by
                  have h1 := (root_two HA2.out HTL.out.ha HTL.out.hz).2.2
                  have h2 := J2.2.1
                  rw [e] at h2
                  rw [h2] at h1
                  simp at h1
                obtain ⟨d2, hJ2⟩ := join_mem HA2.out HR2.out.2.1 J2
                obtain rfl : e = .returned (ptr c2) := J2.1
                have hcP : c2 ∈ (nd4 PP).cl.kids := by rw [hJ2.one]; simp
                have hPc : PP ≠ c2 := fun e => by have := HA2.out.T.I.kid_longer HR2.out.2.1 hcP; rw [← e] at this; omega
                have hPn := hJ2.rest PP HR2.out.2.1 hPc
                have hcn := hJ2.here
                obtain ⟨v0, P0⟩ : ∃ v, w5.cell? ⟨PP, 0, none⟩ = some v := ⟨_, hPn.pv⟩
                obtain ⟨v1, P1⟩ : ∃ v, w5.cell? ⟨PP, 1, none⟩ = some v := ⟨_, hPn.c1⟩
                obtain ⟨v2, P2⟩ : ∃ v, w5.cell? ⟨PP, 2, none⟩ = some v := ⟨_, hPn.c2⟩
                obtain ⟨v3, P3⟩ : ∃ v, w5.cell? ⟨PP, 3, none⟩ = some v := ⟨_, hPn.c3⟩
                obtain ⟨v4, P4⟩ : ∃ v, w5.cell? ⟨PP, 4, none⟩ = some v := ⟨_, hPn.c4⟩
                have F0 := hPn.fr 0
                have F1 := hPn.fr 1
                have F2 := hPn.fr 2
                have F3 := hPn.fr 3
                have F4 := hPn.fr 4
                have C0 := hcn.sl hJ2.np
                have C1 := hcn.c1
                rw [hJ2.it] at C1
                simp only [itv] at C1
                have C2 := hcn.c2
                have C3 := hcn.c3
                have C4 := hcn.c4
                unfold CL.val at C4
                have hcPn : ¬ c2 = PP := fun e => hPc e.symm
                have hPcn : ¬ PP = c2 := hPc
                have HJ2 := Lib.hid hJ2
                have HPT := Lib.hid hPt
                clear hPn hcn hJ2 J2 hcP hPc hPt
                go_wp2_with fail
                first | rw [Exit.noGoto_ret] | rw [j1_r]
                go_ret
                rw [st5_eq]
                exact ⟨rfl, copy_kid HTL.out HA2.out HR2.out.1 HR2.out.2.1 HPT.out HR2.out.2.2.1 HR2.out.2.2.2 HJ2.out⟩
        | none =>
          rw [hit] at p1
          simp only [itv] at p1
          have h2k : 2 ≤ (nd1 p).cl.kids.length := by
            rcases hex with h | h
            · exact absurd hit h
            · exact h
          have g5 : (2 : Int) ≤ ((nd1 p).cl.kids.length : Int) := by omega
          clear hex hit h2k
          go_wp2_with fail
          refine (HLEN.out _).mono ?_
          rintro e w3 ⟨rfl, n3, rfl⟩
          have hjn : j ≤ n := by
            rcases Nat.lt_or_ge n j with h | h
            · exfalso
              have h1 : j = l.length - 1 := by have := HN.out; omega
              have h2 := HJP.out
              rw [h1, HD.out.last] at h2
              injection h2 with h2
              subst h2
              rcases HEX.out with h3 | h3
              · exact h3 HD.out.iq
              · have := HKZ.out; omega
            · exact h
          obtain ⟨x, hx⟩ : ∃ x, l[j + 1]? = some x := ⟨_, List.getElem?_eq_getElem (by have := HN.out; omega)⟩
          have HXX := Lib.hid hx
          clear hx
          by_cases hj0 : j = 0
          · subst hj0
            go_wp2_with (first | go_step3 | with_reducible refine j1_i0 ?_)
            have HD4 := Lib.hid (HD.out.dr (n2 + n3))
            generalize W1.drewN (n2 + n3) = Wr at HD4 ⊢
            obtain ⟨W3, hW3⟩ : ∃ W3, Wr.drew = W3 := ⟨_, rfl⟩
            have HD3 : Hid (DelH w W3 t mp rp M O K N nd1 wd S sh l q g) := by rw [← hW3]; exact HD4.out.dr 1
            have hW3 := Lib.hid hW3
            have hxN := HD3.out.mem HXX.out
            have hxk := HD3.out.path.2 0 p x HJP.out HXX.out
            have hxpx : 0 < (nd1 x).px.length := List.length_pos_iff.2 (HD3.out.A.T.I.kid p hpN x hxk).2.2.2
            have P4 : W3.cell? ⟨p, 4, none⟩ = some (.iface (nd1 p).cl.ty (ptr (nd1 p).cl.l)) := (HD3.out.A.T.H p hpN).c4
            have rx : W3.cell? ⟨g, 1, none⟩ = some (ptr x) := HD3.out.row 1 x HXX.out
            have x0 := (HD3.out.A.T.H x hxN).sl (HD3.out.A.T.np hxN)
            have xb : W3.cell? ⟨(nd1 x).sb, (nd1 x).so, none⟩ = some (.int .u8 ((nd1 x).fb.toNat : Int)) := by
              refine ((HD3.out.A.T.H x hxN).ks (HD3.out.A.T.np hxN)).head ?_
              unfold Nd.fb
              cases hxx : (nd1 x).px with
              | nil => rw [hxx] at hxpx; simp at hxpx
              | cons a r => rfl
            clear m1 m2 r1 p1 p4
            have m1 := m_remove (nd1 p).cl
            have m2 := f_remove (nd1 p).cl
            have g6 : (1 : Int) < (n : Int) + 2 := by omega
            have w1 : IntKind.i64.wrap 1 = 1 := by decide
            refine wp_region_tail 16 (by kernel_rfl) (by kernel_rfl) hW3.out ?_
            simp only [List.take_succ_cons, List.take_zero, List.drop_succ_cons, List.drop_zero]
            repeat still_step
            refine wpStill_nil ?_
            go_wp2_with fail
            clear w1
            refine (drop_call HD3.out.A hpN hxk).mono ?_
            rintro e W2 hR
            obtain ⟨rfl, N3, nd3, A3, L3, T3, hp3, _⟩ := HD3.out.drop HJP.out HXX.out HB.out HEX.out HKZ.out hR
            obtain rfl : p = t := by have := HD3.out.path.1; rw [HJP.out] at this; injection this
            have HA3 := Lib.hid (⟨A3, L3, T3, hp3⟩ : _ ∧ _ ∧ _ ∧ _)
            clear hR A3 L3 T3 hp3 P4 rx x0 xb m1 m2
            go_wp2_with (first | go_step3 | with_reducible refine j1_i0 ?_)
            refine (compact_TA HA3.out.1 HA3.out.2.2.2).mono ?_
            rintro e w3 hcp
            rcases hcp with ⟨rfl, n3, rfl⟩ | ⟨c, J⟩
            · have hsame := neq_same p
              go_wp2_with (first | go_step3 | with_reducible refine j1_i0 ?_)
              first | rw [Exit.noGoto_ret] | rw [j1_r]
              go_ret
              exact ⟨rfl, O, ⟨N3, nd3, wd, S, sh, HA3.out.1.dr n3, HA3.out.2.1⟩, fun _ h => .inl h, HA3.out.2.2.1.drn n3⟩
            · exfalso
              have h1 := (root_two HA3.out.1 HD3.out.ha HD3.out.hz).2.2
              rw [J.2.1] at h1
              simp at h1
          · obtain ⟨jj, rfl⟩ : ∃ m, j = m + 1 := ⟨j - 1, by omega⟩
            obtain ⟨PP, hPP⟩ : ∃ P, l[jj]? = some P := ⟨_, List.getElem?_eq_getElem (by have := HN.out; omega)⟩
            have r2 := HD.out.row jj PP hPP
            have HPJ := Lib.hid hPP
            have g2 : (jj : Int) < (n : Int) + 2 := by omega
            clear hPP
            go_wp2_with (first | go_step3 | with_reducible refine j1_i0 ?_)
            have HD4 := Lib.hid (HD.out.dr (n2 + n3))
            generalize W1.drewN (n2 + n3) = Wr at HD4 ⊢
            obtain ⟨W3, hW3⟩ : ∃ W3, Wr.drew = W3 := ⟨_, rfl⟩
            have HD3 : Hid (DelH w W3 t mp rp M O K N nd1 wd S sh l q g) := by rw [← hW3]; exact HD4.out.dr 1
            have hW3 := Lib.hid hW3
            have hxN := HD3.out.mem HXX.out
            have hxk := HD3.out.path.2 (jj + 1) p x HJP.out HXX.out
            have hxpx : 0 < (nd1 x).px.length := List.length_pos_iff.2 (HD3.out.A.T.I.kid p hpN x hxk).2.2.2
            have P4 : W3.cell? ⟨p, 4, none⟩ = some (.iface (nd1 p).cl.ty (ptr (nd1 p).cl.l)) := (HD3.out.A.T.H p hpN).c4
            have rx : W3.cell? ⟨g, jj + 1 + 1, none⟩ = some (ptr x) := HD3.out.row (jj + 1 + 1) x HXX.out
            have x0 := (HD3.out.A.T.H x hxN).sl (HD3.out.A.T.np hxN)
            have xb : W3.cell? ⟨(nd1 x).sb, (nd1 x).so, none⟩ = some (.int .u8 ((nd1 x).fb.toNat : Int)) := by
              refine ((HD3.out.A.T.H x hxN).ks (HD3.out.A.T.np hxN)).head ?_
              unfold Nd.fb
              cases hxx : (nd1 x).px with
              | nil => rw [hxx] at hxpx; simp at hxpx
              | cons a r => rfl
            have g3 : (jj : Int) + 1 + 1 < (n : Int) + 2 := by omega
            clear m1 m2 r1 p1 p4 r2
            have m1 := m_remove (nd1 p).cl
            have m2 := f_remove (nd1 p).cl
            have n1 : (0 : Int) ≤ (jj : Int) + 1 + 1 := by omega
            have tn : ((jj : Int) + 1 + 1).toNat = jj + 1 + 1 := by omega
            have w1 : IntKind.i64.wrap ((jj : Int) + 1 + 1) = (jj : Int) + 1 + 1 := IntWalk.i64_in _ (by omega)
            refine wp_region_tail 16 (by kernel_rfl) (by kernel_rfl) hW3.out ?_
            simp only [List.take_succ_cons, List.take_zero, List.drop_succ_cons, List.drop_zero]
            repeat still_step
            refine wpStill_nil ?_
            go_wp2_with fail
            clear w1 tn n1
            refine (drop_call HD3.out.A hpN hxk).mono ?_
            rintro e W2 hR
            obtain ⟨rfl, N3, nd3, A3, L3, T3, hp3, hpar⟩ := HD3.out.drop HJP.out HXX.out HB.out HEX.out HKZ.out hR
            have hpar := hpar PP (by omega) HPJ.out
            have HTL : Hid (TailH w W2 t mp rp (setM M K none) O N3 nd3 wd S sh p PP) := (⟨A3, L3, hpar.1, hpar.2, HD3.out.ha, HD3.out.hz, T3⟩ : TailH w W2 t mp rp (setM M K none) O N3 nd3 wd S sh p PP)
            clear hR A3 L3 T3 hp3 hpar P4 rx x0 xb m1 m2
            go_wp2_with (first | go_step3 | with_reducible refine j1_i0 ?_)
            refine (compact_TA HTL.out.A HTL.out.mem).mono ?_
            rintro e w3 hcp
            rcases hcp with ⟨rfl, n2, rfl⟩ | ⟨c, J⟩
            · have hsame := neq_same p
              go_wp2_with fail
              first | rw [Exit.noGoto_ret] | rw [j1_r]
              go_ret
              exact ⟨rfl, HTL.out.self n2⟩
            · obtain ⟨d', hJ⟩ := join_mem HTL.out.A HTL.out.mem J
              obtain rfl : e = .returned (ptr c) := J.1
              have hcN : N3 c ∧ c ≠ p ∧ PP ≠ c := by
                have hcq : c ∈ (nd3 p).cl.kids := by rw [hJ.one]; simp
                have h1 := HTL.out.A.T.I.kid_longer HTL.out.mem hcq
                have h2 := HTL.out.A.T.I.kid_longer HTL.out.hP HTL.out.hp
                exact ⟨(HTL.out.A.T.I.kid p HTL.out.mem c hcq).1, fun e => by rw [e] at h1; omega, fun e => by rw [← e] at h1; omega⟩
              have hqc := hJ.rest p HTL.out.mem (fun e => hcN.2.1 e.symm)
              have hPc := hJ.rest PP HTL.out.hP hcN.2.2
              have hother := neq_other hcN.2.1 hJ.here.obj hqc.obj
              have hqpx : 0 < (nd3 p).px.length := List.length_pos_iff.2 (HTL.out.A.T.I.kid PP HTL.out.hP p HTL.out.hp).2.2.2
              obtain ⟨W3, hW3⟩ : ∃ W3, w3.drew = W3 := ⟨_, rfl⟩
              have P4 : W3.cell? ⟨PP, 4, none⟩ = some (.iface (nd3 PP).cl.ty (ptr (nd3 PP).cl.l)) := by rw [← hW3]; exact hPc.c4
              have p0 : W3.cell? ⟨p, 0, none⟩ = some (.slice (some ⟨(nd3 p).sb, (nd3 p).so, none⟩) (nd3 p).px.length (nd3 p).sc) := by rw [← hW3]; exact hqc.sl (HTL.out.A.T.np HTL.out.mem)
              have pb : W3.cell? ⟨(nd3 p).sb, (nd3 p).so, none⟩ = some (.int .u8 ((nd3 p).fb.toNat : Int)) := by
                rw [← hW3]
                refine (hqc.ks (HTL.out.A.T.np HTL.out.mem)).head ?_
                unfold Nd.fb
                cases hx : (nd3 p).px with
                | nil => rw [hx] at hqpx; simp at hqpx
                | cons a r => rfl
              have m1 := m_replace (nd3 PP).cl
              have m2 := f_replace (nd3 PP).cl
              have HJ := Lib.hid hJ
              have HW3 := Lib.hid hW3
              clear hJ J hcN hqc hPc hW3
              go_wp2_with fail
              refine wp_region_tail 13 (by kernel_rfl) (by kernel_rfl) HW3.out ?_
              simp only [List.take_succ_cons, List.take_zero, List.drop_succ_cons, List.drop_zero]
              repeat still_step
              refine wpStill_nil ?_
              go_wp2_with fail
              have HJ3 : Hid (Joined W2 W3 O N3 nd3 p c d') := by rw [← HW3.out]; exact HJ.out.drw
              refine (join_replace HTL.out.A HTL.out.hP HTL.out.hp HJ3.out).mono ?_
              rintro e w4 hR
              obtain ⟨N4, nd4, S2, sh2, O2, A2, L2, hP2, hO2, hT2⟩ := join_TA HTL.out.A HTL.out.L HTL.out.hP HTL.out.hp HJ3.out hR
              obtain rfl : e = .returned (.tuple #[]) := by obtain ⟨_, _, he, _⟩ := hR; exact he
              have HA2 := Lib.hid A2
              have HR2 := Lib.hid (⟨L2, hP2, hO2, hT2⟩ : _ ∧ _ ∧ _ ∧ _)
              clear hR A2 L2 hO2 hT2 hP2 P4 p0 pb m1 m2 hother
              go_wp2_with fail
              refine (compact_TA HA2.out HR2.out.2.1).mono ?_
              rintro e w5 hcp
              rcases hcp with ⟨rfl, n3, rfl⟩ | ⟨c2, J2⟩
              · have hPn := (HA2.out.T.H PP HR2.out.2.1).dr n3
                have hnp := HA2.out.T.np HR2.out.2.1
                have HB := Lib.hid (HA2.out.dr n3)
                have HTT : Hid (Tch W2 (w4.drewN n3) O) := HR2.out.2.2.2.drn n3
                have hsz : (w4.drewN n3).heap.size = w4.heap.size := rfl
                have HSZ := Lib.hid hsz
                generalize w4.drewN n3 = W5 at hPn HB HTT HSZ ⊢
                have P0 := hPn.sl hnp
                have P1 := hPn.c1
                have P2 := hPn.c2
                have P3 := hPn.c3
                have P4 := hPn.c4
                unfold CL.val at P4
                have F0 := hPn.fr 0
                have F1 := hPn.fr 1
                have F2 := hPn.fr 2
                have F3 := hPn.fr 3
                have F4 := hPn.fr 4
                have hst := fun (W : World) (a : Addr) (md : Mode) => run_store Try.prog W a (itv (nd4 PP).it) md (itv_one _)
                have HPN := Lib.hid hPn
                clear hPn hnp hsz
                go_wp2_with fail
                first | rw [Exit.noGoto_ret] | rw [j1_r]
                go_ret
                rw [st5_eq]
                exact ⟨rfl, copy_same HTL.out HB.out HR2.out.1 HR2.out.2.1 (fun k hk => by rw [HSZ.out]; exact HR2.out.2.2.1 k hk) HTT.out⟩
              · have hPt : PP ≠ t := fun e => by
                  have h1 := (root_two HA2.out HTL.out.ha HTL.out.hz).2.2
                  have h2 := J2.2.1
                  rw [e] at h2
                  rw [h2] at h1
                  simp at h1
                obtain ⟨d2, hJ2⟩ := join_mem HA2.out HR2.out.2.1 J2
                obtain rfl : e = .returned (ptr c2) := J2.1
                have hcP : c2 ∈ (nd4 PP).cl.kids := by rw [hJ2.one]; simp
                have hPc : PP ≠ c2 := fun e => by have := HA2.out.T.I.kid_longer HR2.out.2.1 hcP; rw [← e] at this; omega
                have hPn := hJ2.rest PP HR2.out.2.1 hPc
                have hcn := hJ2.here
                obtain ⟨v0, P0⟩ : ∃ v, w5.cell? ⟨PP, 0, none⟩ = some v := ⟨_, hPn.pv⟩
                obtain ⟨v1, P1⟩ : ∃ v, w5.cell? ⟨PP, 1, none⟩ = some v := ⟨_, hPn.c1⟩
                obtain ⟨v2, P2⟩ : ∃ v, w5.cell? ⟨PP, 2, none⟩ = some v := ⟨_, hPn.c2⟩
                obtain ⟨v3, P3⟩ : ∃ v, w5.cell? ⟨PP, 3, none⟩ = some v := ⟨_, hPn.c3⟩
                obtain ⟨v4, P4⟩ : ∃ v, w5.cell? ⟨PP, 4, none⟩ = some v := ⟨_, hPn.c4⟩
                have F0 := hPn.fr 0
                have F1 := hPn.fr 1
                have F2 := hPn.fr 2
                have F3 := hPn.fr 3
                have F4 := hPn.fr 4
                have C0 := hcn.sl hJ2.np
                have C1 := hcn.c1
                rw [hJ2.it] at C1
                simp only [itv] at C1
                have C2 := hcn.c2
                have C3 := hcn.c3
                have C4 := hcn.c4
                unfold CL.val at C4
                have hcPn : ¬ c2 = PP := fun e => hPc e.symm
                have hPcn : ¬ PP = c2 := hPc
                have HJ2 := Lib.hid hJ2
                have HPT := Lib.hid hPt
                clear hPn hcn hJ2 J2 hcP hPc hPt
                go_wp2_with fail
                first | rw [Exit.noGoto_ret] | rw [j1_r]
                go_ret
                rw [st5_eq]
                exact ⟨rfl, copy_kid HTL.out HA2.out HR2.out.1 HR2.out.2.1 HPT.out HR2.out.2.2.1 HR2.out.2.2.2 HJ2.out⟩
      · have hit : (nd1 p).it = none := by
          cases h : (nd1 p).it with
          | none => rfl
          | some u => exact absurd (.inl (by rw [h]; simp)) hex
        have h2k : (nd1 p).cl.kids.length < 2 := by
          rcases Nat.lt_or_ge (nd1 p).cl.kids.length 2 with h | h
          · exact h
          · exact absurd (.inr h) hex
        obtain ⟨jj, rfl⟩ : ∃ m, j = m + 1 := by
          refine ⟨j - 1, ?_⟩
          rcases Nat.eq_zero_or_pos j with h | h
          · exfalso
            subst h
            obtain rfl : p = t := by have := HD.out.path.1; rw [HJP.out] at this; injection this
            have := (root_two HD.out.A HD.out.ha HD.out.hz).2.2
            omega
          · omega
        have g5 : ¬ (2 : Int) ≤ ((nd1 p).cl.kids.length : Int) := by omega
        have HB2 : Hid (∀ (k p : Nat), jj < k → l[k]? = some p → (nd1 p).it = none ∧ (nd1 p).cl.kids.length < 2) := by
          show ∀ (k p : Nat), _
          intro k p' hk hp'
          by_cases h : k = jj + 1
          · rw [h, HJP.out] at hp'
            injection hp' with hp'
            rw [← hp']; exact ⟨hit, h2k⟩
          · exact HB.out k p' (by omega) hp'
        rw [hit] at p1
        simp only [itv] at p1
        clear hex hit h2k
        go_wp2_with fail
        refine (HLEN.out _).mono ?_
        rintro e w3 ⟨rfl, n3, rfl⟩
        go_wp2_with fail
        go_roundw
        case rel => exact ⟨jj, n2 + n3, by omega, by go_num, rfl, HB2⟩
        case measure => simp [intOf]
  · have e1 : (((nd1 q).cl.kids.length : Int) != 0) = true := by rw [bne_iff_ne]; omega
    have HTL : Hid (TailH w (W1.drewN n1) t mp rp (setM M K none) O N nd1 wd S sh q P) := by
      refine (⟨HD.out.A.dr n1, fun x hx => ?_, HD.out.mem HPP.out, HD.out.path.2 n P q HPP.out (by rw [show n + 1 = l.length - 1 by have := HN.out; omega]; exact HD.out.last), HD.out.ha, HD.out.hz, HD.out.T.drn n1⟩ : TailH w (W1.drewN n1) t mp rp (setM M K none) O N nd1 wd S sh q P)
      by_cases h : x = q
      · rw [h]; right; omega
      · exact HD.out.L x hx h
    clear m1 m2 hkz
    go_wp2_with (first | go_step3 | with_reducible refine j1_i0 ?_)
    refine HJ0.out _ _ ?_
    obtain ⟨W2, hW2⟩ : ∃ W2, W1.drewN n1 = W2 := ⟨_, rfl⟩
    rw [hW2] at HTL ⊢
    go_wp2_with fail
    refine (compact_TA HTL.out.A HTL.out.mem).mono ?_
    rintro e w3 hcp
    rcases hcp with ⟨rfl, n2, rfl⟩ | ⟨c, J⟩
    · have hsame := neq_same q
      go_wp2_with fail
      first | rw [Exit.noGoto_ret] | rw [j1_r]
      go_ret
      exact ⟨rfl, HTL.out.self n2⟩
    · obtain ⟨d', hJ⟩ := join_mem HTL.out.A HTL.out.mem J
      obtain rfl : e = .returned (ptr c) := J.1
      have hcN : N c ∧ c ≠ q ∧ P ≠ c := by
        have hcq : c ∈ (nd1 q).cl.kids := by rw [hJ.one]; simp
        have h1 := HTL.out.A.T.I.kid_longer HTL.out.mem hcq
        have h2 := HTL.out.A.T.I.kid_longer HTL.out.hP HTL.out.hp
        exact ⟨(HTL.out.A.T.I.kid q HTL.out.mem c hcq).1, fun e => by rw [e] at h1; omega, fun e => by rw [← e] at h1; omega⟩
      have hqc := hJ.rest q HTL.out.mem (fun e => hcN.2.1 e.symm)
      have hPc := hJ.rest P HTL.out.hP hcN.2.2
      have hother := neq_other hcN.2.1 hJ.here.obj hqc.obj
      have hqpx : 0 < (nd1 q).px.length := List.length_pos_iff.2 (HTL.out.A.T.I.kid P HTL.out.hP q HTL.out.hp).2.2.2
      obtain ⟨W3, hW3⟩ : ∃ W3, w3.drew = W3 := ⟨_, rfl⟩
      have P4 : W3.cell? ⟨P, 4, none⟩ = some (.iface (nd1 P).cl.ty (ptr (nd1 P).cl.l)) := by rw [← hW3]; exact hPc.c4
      have p0 : W3.cell? ⟨q, 0, none⟩ = some (.slice (some ⟨(nd1 q).sb, (nd1 q).so, none⟩) (nd1 q).px.length (nd1 q).sc) := by rw [← hW3]; exact hqc.sl (HTL.out.A.T.np HTL.out.mem)
      have pb : W3.cell? ⟨(nd1 q).sb, (nd1 q).so, none⟩ = some (.int .u8 ((nd1 q).fb.toNat : Int)) := by
        rw [← hW3]
        refine (hqc.ks (HTL.out.A.T.np HTL.out.mem)).head ?_
        unfold Nd.fb
        cases hx : (nd1 q).px with
        | nil => rw [hx] at hqpx; simp at hqpx
        | cons a r => rfl
      have m1 := m_replace (nd1 P).cl
      have m2 := f_replace (nd1 P).cl
      have HJ := Lib.hid hJ
      have HW3 := Lib.hid hW3
      clear hJ J hcN hqc hPc hW3
      go_wp2_with fail
      refine wp_region_tail 13 (by kernel_rfl) (by kernel_rfl) HW3.out ?_
      simp only [List.take_succ_cons, List.take_zero, List.drop_succ_cons, List.drop_zero]
      repeat still_step
      refine wpStill_nil ?_
      go_wp2_with fail
      have HJ3 : Hid (Joined W2 W3 O N nd1 q c d') := by rw [← HW3.out]; exact HJ.out.drw
      refine (join_replace HTL.out.A HTL.out.hP HTL.out.hp HJ3.out).mono ?_
      rintro e w4 hR
      obtain ⟨N2, nd2, S2, sh2, O2, A2, L2, hP2, hO2, hT2⟩ := join_TA HTL.out.A HTL.out.L HTL.out.hP HTL.out.hp HJ3.out hR
      obtain rfl : e = .returned (.tuple #[]) := by obtain ⟨_, _, he, _⟩ := hR; exact he
      have HA2 := Lib.hid A2
      have HR2 := Lib.hid (⟨L2, hP2, hO2, hT2⟩ : _ ∧ _ ∧ _ ∧ _)
      clear hR A2 L2 hO2 hT2 hP2 P4 p0 pb m1 m2 hother
      go_wp2_with fail
      refine (compact_TA HA2.out HR2.out.2.1).mono ?_
      rintro e w5 hcp
      rcases hcp with ⟨rfl, n3, rfl⟩ | ⟨c2, J2⟩
      · have hPn := (HA2.out.T.H P HR2.out.2.1).dr n3
        have hnp := HA2.out.T.np HR2.out.2.1
        have HB := Lib.hid (HA2.out.dr n3)
        have HTT : Hid (Tch W2 (w4.drewN n3) O) := HR2.out.2.2.2.drn n3
        have hsz : (w4.drewN n3).heap.size = w4.heap.size := rfl
        have HSZ := Lib.hid hsz
        generalize w4.drewN n3 = W5 at hPn HB HTT HSZ ⊢
        have P0 := hPn.sl hnp
        have P1 := hPn.c1
        have P2 := hPn.c2
        have P3 := hPn.c3
        have P4 := hPn.c4
        unfold CL.val at P4
        have F0 := hPn.fr 0
        have F1 := hPn.fr 1
        have F2 := hPn.fr 2
        have F3 := hPn.fr 3
        have F4 := hPn.fr 4
        have hst := fun (W : World) (a : Addr) (md : Mode) => run_store Try.prog W a (itv (nd2 P).it) md (itv_one _)
        have HPN := Lib.hid hPn
        clear hPn hnp hsz
        go_wp2_with fail
        first | rw [Exit.noGoto_ret] | rw [j1_r]
        go_ret
        rw [st5_eq]
        exact ⟨rfl, copy_same HTL.out HB.out HR2.out.1 HR2.out.2.1 (fun k hk => by rw [HSZ.out]; exact HR2.out.2.2.1 k hk) HTT.out⟩
      · have hPt : P ≠ t := fun e => by
          have h1 := (root_two HA2.out HTL.out.ha HTL.out.hz).2.2
          have h2 := J2.2.1
          rw [e] at h2
          rw [h2] at h1
          simp at h1
        obtain ⟨d2, hJ2⟩ := join_mem HA2.out HR2.out.2.1 J2
        obtain rfl : e = .returned (ptr c2) := J2.1
        have hcP : c2 ∈ (nd2 P).cl.kids := by rw [hJ2.one]; simp
        have hPc : P ≠ c2 := fun e => by have := HA2.out.T.I.kid_longer HR2.out.2.1 hcP; rw [← e] at this; omega
        have hPn := hJ2.rest P HR2.out.2.1 hPc
        have hcn := hJ2.here
        obtain ⟨v0, P0⟩ : ∃ v, w5.cell? ⟨P, 0, none⟩ = some v := ⟨_, hPn.pv⟩
        obtain ⟨v1, P1⟩ : ∃ v, w5.cell? ⟨P, 1, none⟩ = some v := ⟨_, hPn.c1⟩
        obtain ⟨v2, P2⟩ : ∃ v, w5.cell? ⟨P, 2, none⟩ = some v := ⟨_, hPn.c2⟩
        obtain ⟨v3, P3⟩ : ∃ v, w5.cell? ⟨P, 3, none⟩ = some v := ⟨_, hPn.c3⟩
        obtain ⟨v4, P4⟩ : ∃ v, w5.cell? ⟨P, 4, none⟩ = some v := ⟨_, hPn.c4⟩
        have F0 := hPn.fr 0
        have F1 := hPn.fr 1
        have F2 := hPn.fr 2
        have F3 := hPn.fr 3
        have F4 := hPn.fr 4
        have C0 := hcn.sl hJ2.np
        have C1 := hcn.c1
        rw [hJ2.it] at C1
        simp only [itv] at C1
        have C2 := hcn.c2
        have C3 := hcn.c3
        have C4 := hcn.c4
        unfold CL.val at C4
        have hcPn : ¬ c2 = P := fun e => hPc e.symm
        have hPcn : ¬ P = c2 := hPc
        have HJ2 := Lib.hid hJ2
        have HPT := Lib.hid hPt
        clear hPn hcn hJ2 J2 hcP hPc hPt
        go_wp2_with fail
        first | rw [Exit.noGoto_ret] | rw [j1_r]
        go_ret
        rw [st5_eq]
        exact ⟨rfl, copy_kid HTL.out HA2.out HR2.out.1 HR2.out.2.1 HPT.out HR2.out.2.2.1 HR2.out.2.2.2 HJ2.out⟩

end Go.Proofs.Ytmdbnjepajifpaa
