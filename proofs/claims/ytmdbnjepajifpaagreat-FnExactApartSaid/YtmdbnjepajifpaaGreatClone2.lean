/- clone of a list of children. -/
import Derived.Test.YtmdbnjepajifpaaGreatClone1
import Derived.RegionTactic
import Derived.BigRegion
set_option linter.unusedVariables false
set_option linter.unusedSimpArgs false
namespace Go.Proofs.YtmdbnjepajifpaaGreat
open Go.RowKit

theorem mk_tries2 (m n : Nat) (hm : m ≤ n) (h : n ≤ 1000) (W : World) :
    (Instr.makeSlice 101 (.int .i64 (m : Int)) (.int .i64 (n : Int))).run Tryz.prog W = .ok (.slice (some ⟨W.heap.size, 0, none⟩) m n) (W.alloc (.cells (arrV (List.replicate n none)) 41)) := by
  obtain ⟨i0, hi, hz0, hz1, hz2⟩ := info_parts infoPtr
  rw [run_make (P := Tryz.prog) W 101 41 i0 (.pointer none) Tryz.underlying101 hi hz0 .i64 .i64 m n (by omega) (by omega) (by rw [hz2]; omega) (by omega)]
  simp only [Int.toNat_natCast, hz1, arrV_nil]

section
variable {t : Nat} {mp : Int} {rp : List UInt8} {M : List UInt8 → Option Int} {O : Nat → Prop} {N : Nat → Prop} {nd : Nat → Nd} {wd : Nat → List UInt8} {S : Nat → List UInt8} {sh : Nat → Nat} {w : World} {p l a cap : Nat} {ks : List Nat}

/-- Clone of a node's child, in whatever later world. -/
def CloneIH (N : Nat → Prop) (wd : Nat → List UInt8) (nd : Nat → Nd) (w : World) (c : Nat) : Prop :=
  ∀ W, Tch w W (fun _ => False) → Calls Tryz.prog 30 #[.pointer (some ⟨c, 0, none⟩)] W (CloneP N wd nd c W)

/-- The state of the loop over a sparse list. -/
def SpC (w : World) (N : Nat → Prop) (wd : Nat → List UInt8) (nd : Nat → Nd) (cap : Nat) (ks : List Nat) (A : List (Option Nat)) (cn : Nat → Nat) (cd : Nat → Nd) (wr : World) : Prop :=
  CLp w (w.heap.size + 1) w.heap.size N wd nd ks A cn cd wr ∧ A.length = cap ∧ ∀ (i c : Nat), ks[i]? = some c → A[i]? = some (some (cn c))

theorem CLp.start (A : List (Option Nat)) (cn : Nat → Nat) (cd : Nat → Nd) {wr : World} (h : wr.heap = (w.alloc (.cells (arrV A) 41)).heap) (hm : wr.os = w.os ∧ wr.tape = w.tape ∧ wr.output = w.output) :
    CLp w (w.heap.size + 1) w.heap.size N wd nd [] A cn cd wr := by
  have h0 := heap_new w (.cells (arrV A) 41)
  refine ⟨⟨hm.1, hm.2.1, hm.2.2, by rw [h]; simp, fun k hk _ => by rw [h]; exact Below.heap_alloc _ _ _ hk⟩, by rw [h]; exact h0, Nat.le_refl _, by omega, by rw [h]; simp, ClS.none.of (fun x hx => by obtain ⟨d, hd, _⟩ := hx; cases hd)⟩

theorem SpC.step (A0 : TA w t mp rp M O N nd wd S sh) (hp : N p) {j c : Nat} {A : List (Option Nat)} {cn cn2 : Nat → Nat} {cd cd2 : Nat → Nd} {wr wr2 wr3 : World} (hks : ∀ d, d ∈ ks → d ∈ (nd p).cl.kids) (hnd : ks.Nodup) (hc : ks[j]? = some c) (hcap : ks.length ≤ cap)
    (H : SpC w N wd nd cap (ks.take j) A cn cd wr) (hT : Tch wr wr2 (fun _ => False)) (k : ClS wr2 wr.heap.size (fun x => N x ∧ wd c <+: wd x) nd cn2 cd2) (h3 : wr3.heap = (wr2.setCell ⟨w.heap.size, j, none⟩ (ptr (cn2 c))).heap) (hm : wr3.os = wr2.os ∧ wr3.tape = wr2.tape ∧ wr3.output = wr2.output) :
    ∃ A3 cn3 cd3, SpC w N wd nd cap (ks.take (j + 1)) A3 cn3 cd3 wr3 := by
  obtain ⟨H1, H2, H3⟩ := H
  have hcd : c ∉ ks.take j := fun hm => by
    obtain ⟨i, hi, e⟩ := List.mem_take_iff_getElem.1 hm
    have h1 : ks[i]? = ks[j]? := by rw [hc, List.getElem?_eq_getElem (by omega), e]
    have := (List.getElem?_inj (by omega) hnd).1 h1
    omega
  have hjl := (List.getElem?_eq_some_iff.1 hc).1
  obtain ⟨cn3, cd3, e1, e2, H4⟩ := H1.step A0.T.I hp (fun d hd => hks d (List.mem_of_mem_take hd)) (hks c (List.mem_of_getElem? hc)) hcd hT k h3 hm
  have htk : ks.take (j + 1) = ks.take j ++ [c] := by rw [List.take_add_one, hc]; rfl
  refine ⟨_, cn3, cd3, by rw [htk]; exact H4, by rw [List.length_set]; exact H2, fun i d hi => ?_⟩
  have hlen : (ks.take j).length = j := by rw [List.length_take]; omega
  rw [htk] at hi
  by_cases hij : i < j
  · rw [List.getElem?_append_left (by omega)] at hi
    rw [List.getElem?_set_ne (by omega), e1 d (List.mem_of_getElem? hi)]
    exact H3 i d hi
  · rw [List.getElem?_append_right (by omega), hlen] at hi
    have hij2 : i = j := by
      rcases Nat.lt_or_ge j i with h | h
      · rw [List.getElem?_eq_none (by simp; omega)] at hi; cases hi
      · omega
    subst hij2
    simp at hi
    subst hi
    rw [List.getElem?_set_self (by omega)]

set_option maxRecDepth 100000 in
set_option maxHeartbeats 3200000 in
theorem sp_clone (A0 : TA w t mp rp M O N nd wd S sh) (hp : N p) (hcl : (nd p).cl = .sp l a cap ks) (IH : ∀ c, c ∈ ks → CloneIH N wd nd w c) :
    Calls Tryz.prog 87 #[.pointer (some ⟨l, 0, none⟩)] w (CloneL N wd nd p w) := by
  have hraw := (A0.T.H p hp).raw
  have hnd := A0.T.I.nodup p hp
  rw [hcl] at hraw hnd
  obtain ⟨r1, r2, r3, C, r4, r5, r6⟩ := hraw
  have c0 : w.cell? ⟨l, 0, none⟩ = some (.slice (some ⟨a, 0, none⟩) ks.length cap) := by rw [cell_of_block r1]; rfl
  have hmk := mk_tries2 ks.length cap r2 (by omega)
  have HA := Lib.hid A0
  have HCL := Lib.hid hcl
  have HIH := Lib.hid IH
  have HR := Lib.hid (⟨r4, r5, r6, hnd⟩ : _ ∧ _ ∧ _ ∧ _)
  have HP := Lib.hid hp
  clear A0 hp hcl IH r1 r4 r5 r6 hnd
  go_enter Tryz.func87, Tryz.ntmps87
  go_wp2_with fail
  go_region
  obtain ⟨W1, hW1⟩ : ∃ W1, (w.alloc (.cells (arrV (List.replicate cap none)) 41)).drew = W1 := ⟨_, rfl⟩
  have hS : SpC w N wd nd cap (ks.take 0) (List.replicate cap none) (fun x => x) nd W1 :=
    ⟨CLp.start _ _ _ (by rw [← hW1]; rfl) (by rw [← hW1]; exact ⟨rfl, rfl, rfl⟩), List.length_replicate, fun i c h => by simp at h⟩
  have HS := Lib.hid hS
  rw [hW1]
  have c0 : W1.cell? ⟨l, 0, none⟩ = some (.slice (some ⟨a, 0, none⟩) ks.length cap) := by rw [← hW1]; rw [World.cell?_of_block (w := w) (Below.heap_alloc w _ l (World.block_lt_of_cell? w _ c0))]; exact c0
  have hlen : ks.length ≤ 12 := by omega
  clear hmk hW1 hS
  go_wp2_with fail
  go_loopw [22] (fun i wr => ∃ (j : Nat) (A : List (Option Nat)) (cn : Nat → Nat) (cd : Nat → Nd), i = .int .i64 (j : Int) ∧ j ≤ ks.length ∧ Hid (SpC w N wd nd cap (ks.take j) A cn cd wr)) (fun i _ => ks.length - (intOf i).toNat)
  case atStart => exact ⟨0, _, _, _, rfl, Nat.zero_le _, HS⟩
  case round =>
    obtain ⟨j, A, cn, cd, rfl, hjl, HI⟩ := hrel
    by_cases hj : j < ks.length
    · obtain ⟨c, hc⟩ : ∃ c, ks[j]? = some c := ⟨_, List.getElem?_eq_getElem hj⟩
      have hj' : (j : Int) < (ks.length : Int) := by omega
      have c2 : wr.cell? ⟨a, j, none⟩ = some (.pointer (some ⟨c, 0, none⟩)) := by
        rw [World.cell?_of_block (HI.out.1.T.keep a (lt_of_heap HR.out.1) (fun h => h)), cell_of_block HR.out.1]
        exact HR.out.2.2.1 j c hc
      have HC := Lib.hid hc
      have HCALL := Lib.hid (HIH.out c (List.mem_of_getElem? hc) wr HI.out.1.T)
      have hjc : j < cap := by omega
      clear hc
      go_wp2_with fail
      refine HCALL.out.mono ?_
      rintro e wr2 ⟨cn2, cd2, rfl, hT2, hS2⟩
      have harr : wr2.heap[w.heap.size]? = some (.cells (arrV A) 41 (0, 0)) := (hT2.keep _ (lt_of_heap HI.out.1.arr) (fun h => h)).trans HI.out.1.arr
      obtain ⟨x, hx⟩ : ∃ x, A[j]? = some x := ⟨_, List.getElem?_eq_getElem (by rw [HI.out.2.1]; exact hjc)⟩
      have d0 : wr2.cell? ⟨w.heap.size, j, none⟩ = some (optr x) := by rw [cell_of_block harr, arrV_get, hx]; rfl
      have d1 := free_of_block harr j
      have H2 := Lib.hid (⟨hT2, hS2⟩ : _ ∧ _)
      clear hT2 hS2 harr hx
      go_wp2_with fail
      have hstep := HI.out.step HA.out HP.out (fun d hd => by rw [HCL.out]; exact hd) HR.out.2.2.2 HC.out r2 H2.out.1 H2.out.2 (wr3 := wr2.setCell ⟨w.heap.size, j, none⟩ (.pointer (some ⟨cn2 c, 0, none⟩))) rfl ⟨rfl, rfl, rfl⟩
      obtain ⟨A3, cn3, cd3, hS3⟩ := hstep
      have HS3 := Lib.hid hS3
      clear hS3
      go_roundw
      case rel => exact ⟨j + 1, A3, cn3, cd3, by go_num, by omega, HS3⟩
      case measure => simp [intOf]; omega
    · have hj' : ¬ (j : Int) < (ks.length : Int) := by omega
      go_wp2_with fail
      go_ret
      have hje : j = ks.length := by omega
      subst hje
      have h := HI.out
      rw [List.take_length] at h
      obtain ⟨h1, h2, h3⟩ := h
      refine ⟨cn, cd, .sp wr.heap.size w.heap.size cap (ks.map cn), wr, w.heap.size + 1, rfl, h1.T, (Tch.refl wr _).alloc _, h1.S.of (fun x hx => by rw [HCL.out] at hx; exact hx), h1.le, Nat.le_refl _, by show w.heap.size < _; omega, Nat.le_refl _, ⟨?_, by rw [List.length_map]; exact r2, r3, arrV A, ?_, by simp [arrV, h2], fun i c hi => ?_⟩, by rw [HCL.out]; exact ⟨rfl, rfl⟩⟩
      · rw [List.length_map]; exact heap_new wr _
      · exact (Below.heap_alloc wr _ _ (lt_of_heap h1.arr)).trans h1.arr
      · rw [List.getElem?_map] at hi
        cases hk : ks[i]? with
        | none => rw [hk] at hi; cases hi
        | some d =>
          rw [hk] at hi
          simp at hi
          rw [arrV_get, h3 i d hk, ← hi]; rfl

/-! ### a dense list -/
theorem rest_none {arr : List (Option Nat)} {j : Nat} (h : ((arr.take j).filterMap id).length = (arr.filterMap id).length) : ∀ i, j ≤ i → i < arr.length → arr[i]? = some none := by
  have h1 : arr.filterMap id = (arr.take j).filterMap id ++ (arr.drop j).filterMap id := by rw [← List.filterMap_append, List.take_append_drop]
  have h2 : (arr.drop j).filterMap id = [] := by
    rw [h1, List.length_append] at h
    exact List.length_eq_zero_iff.1 (by omega)
  intro i h3 h4
  cases ho : arr[i]? with
  | none => rw [List.getElem?_eq_none_iff] at ho; omega
  | some o =>
    cases o with
    | none => rfl
    | some c =>
      exfalso
      have hm : c ∈ (arr.drop j).filterMap id := by
        refine mem_fm.2 (List.mem_of_getElem? (i := i - j) ?_)
        rw [List.getElem?_drop, show j + (i - j) = i by omega]; exact ho
      rw [h2] at hm; cases hm

/-- The state of the loop over a dense list. -/
def DnC (w : World) (N : Nat → Prop) (wd : Nat → List UInt8) (nd : Nat → Nd) (arr : List (Option Nat)) (j : Nat) (A : List (Option Nat)) (cn : Nat → Nat) (cd : Nat → Nd) (wr : World) : Prop :=
  CLp w (w.heap.size + 1) w.heap.size N wd nd ((arr.take j).filterMap id) A cn cd wr ∧ A.length = arr.length ∧ (∀ (i : Nat) (o : Option Nat), i < j → arr[i]? = some o → A[i]? = some (o.map cn)) ∧ ∀ i, j ≤ i → i < arr.length → A[i]? = some none

theorem DnC.skip {arr : List (Option Nat)} {j : Nat} {A : List (Option Nat)} {cn : Nat → Nat} {cd : Nat → Nd} {wr : World} (H : DnC w N wd nd arr j A cn cd wr) (hj : arr[j]? = some none) : DnC w N wd nd arr (j + 1) A cn cd wr := by
  obtain ⟨h1, h2, h3, h4⟩ := H
  have hlt := (List.getElem?_eq_some_iff.1 hj).1
  refine ⟨?_, h2, fun i o hi ho => ?_, fun i hi hl => h4 i (by omega) hl⟩
  · rw [List.take_add_one, hj, List.filterMap_append]
    simpa using h1
  · by_cases e : i = j
    · subst e
      rw [hj] at ho
      injection ho with ho
      subst ho
      exact h4 i (Nat.le_refl _) hlt
    · exact h3 i o (by omega) ho

theorem DnC.all {arr : List (Option Nat)} {A : List (Option Nat)} {cn : Nat → Nat} {cd : Nat → Nd} {wr : World} : ∀ (d j : Nat), j + d = arr.length → DnC w N wd nd arr j A cn cd wr → (∀ i, j ≤ i → i < arr.length → arr[i]? = some none) → DnC w N wd nd arr arr.length A cn cd wr := by
  intro d
  induction d with
  | zero => intro j hj H _; rw [Nat.add_zero] at hj; rw [← hj]; exact H
  | succ d ih => intro j hj H hn; exact ih (j + 1) (by omega) (H.skip (hn j (Nat.le_refl _) (by omega))) (fun i hi => hn i (by omega))

theorem DnC.map {arr : List (Option Nat)} {A : List (Option Nat)} {cn : Nat → Nat} {cd : Nat → Nd} {wr : World} (H : DnC w N wd nd arr arr.length A cn cd wr) : A = arr.map (Option.map cn) := by
  refine List.ext_getElem? (fun i => ?_)
  rw [List.getElem?_map]
  rcases Nat.lt_or_ge i arr.length with h | h
  · rw [H.2.2.1 i arr[i] h (List.getElem?_eq_getElem h), List.getElem?_eq_getElem h]; rfl
  · rw [List.getElem?_eq_none (by rw [H.2.1]; exact h), List.getElem?_eq_none h]; rfl

theorem DnC.step (A0 : TA w t mp rp M O N nd wd S sh) (hp : N p) {arr : List (Option Nat)} {j c : Nat} {A : List (Option Nat)} {cn cn2 : Nat → Nat} {cd cd2 : Nat → Nd} {wr wr2 wr3 : World} (hks : ∀ d, d ∈ arr.filterMap id → d ∈ (nd p).cl.kids) (hnd : (arr.filterMap id).Nodup) (hc : arr[j]? = some (some c))
    (H : DnC w N wd nd arr j A cn cd wr) (hT : Tch wr wr2 (fun _ => False)) (k : ClS wr2 wr.heap.size (fun x => N x ∧ wd c <+: wd x) nd cn2 cd2) (h3 : wr3.heap = (wr2.setCell ⟨w.heap.size, j, none⟩ (ptr (cn2 c))).heap) (hm : wr3.os = wr2.os ∧ wr3.tape = wr2.tape ∧ wr3.output = wr2.output) :
    ∃ A3 cn3 cd3, DnC w N wd nd arr (j + 1) A3 cn3 cd3 wr3 := by
  obtain ⟨H1, H2, H3, H4⟩ := H
  have hjl := (List.getElem?_eq_some_iff.1 hc).1
  have htk : (arr.take (j + 1)).filterMap id = (arr.take j).filterMap id ++ [c] := by rw [List.take_add_one, hc, List.filterMap_append]; rfl
  have hsplit : arr.filterMap id = (arr.take (j + 1)).filterMap id ++ (arr.drop (j + 1)).filterMap id := by rw [← List.filterMap_append, List.take_append_drop]
  have hcd : c ∉ (arr.take j).filterMap id := fun hm => by
    rw [hsplit, htk, List.append_assoc] at hnd
    exact (List.nodup_append.1 hnd).2.2 c hm c (by simp) rfl
  have hdone : ∀ d, d ∈ (arr.take j).filterMap id → d ∈ (nd p).cl.kids := fun d hd => hks d (by rw [mem_fm] at hd ⊢; exact List.mem_of_mem_take hd)
  obtain ⟨cn3, cd3, e1, e2, H5⟩ := H1.step A0.T.I hp hdone (hks c (mem_fm.2 (List.mem_of_getElem? hc))) hcd hT k h3 hm
  refine ⟨_, cn3, cd3, by rw [htk]; exact H5, by rw [List.length_set]; exact H2, fun i o hi ho => ?_, fun i hi hl => ?_⟩
  · by_cases e : i = j
    · subst e
      rw [hc] at ho
      injection ho with ho
      subst ho
      rw [List.getElem?_set_self (by omega)]; rfl
    · rw [List.getElem?_set_ne (by omega), H3 i o (by omega) ho]
      cases o with
      | none => rfl
      | some d =>
        simp only [Option.map_some]
        rw [e1 d (mem_fm.2 (List.mem_of_getElem? (i := i) (by rw [List.getElem?_take, if_pos (by omega)]; exact ho)))]
  · rw [List.getElem?_set_ne (by omega)]; exact H4 i (by omega) hl

theorem DnC.post {l a mn hi : Nat} {arr : List (Option Nat)} {A : List (Option Nat)} {cn : Nat → Nat} {cd : Nat → Nd} {wr W : World} (hcl : (nd p).cl = .dn l a mn hi arr) (r2 : mn + arr.length ≤ 256) (r3 : hi < arr.length) (r4 : ∀ j, j < hi → arr[j]? = some none) (H : DnC w N wd nd arr arr.length A cn cd wr)
    (hW : W.heap = (wr.alloc (.cells #[.int .i64 mn, .int .i64 ((mn : Int) + arr.length - 1), .int .i64 (arr.filterMap id).length, .int .i64 hi, .slice (some ⟨w.heap.size, 0, none⟩) arr.length arr.length] 135)).heap) (hm : W.os = wr.os ∧ W.tape = wr.tape ∧ W.output = wr.output) :
    CloneL N wd nd p w (.returned (.iface 133 (.pointer (some ⟨wr.heap.size, 0, none⟩)))) W := by
  have hA := H.map
  obtain ⟨h1, h2, _, _⟩ := H
  rw [List.take_length] at h1
  have hTW : Tch wr W (fun _ => False) := ⟨hm.1, hm.2.1, hm.2.2, by rw [hW]; simp, fun k hk _ => by rw [hW]; exact Below.heap_alloc _ _ _ hk⟩
  refine ⟨cn, cd, .dn wr.heap.size w.heap.size mn hi (arr.map (Option.map cn)), wr, w.heap.size + 1, rfl, h1.T, hTW, h1.S.of (fun x hx => by rw [hcl] at hx; exact hx), h1.le, Nat.le_refl _, by show w.heap.size < _; omega, Nat.le_refl _, ⟨?_, by rw [List.length_map]; exact r2, by rw [List.length_map]; exact r3, fun j hj => by rw [List.getElem?_map, r4 j hj]; rfl, ?_⟩, by rw [hcl]; exact ⟨rfl, rfl, rfl⟩⟩
  · rw [fm_map, List.length_map, List.length_map, hW]; exact heap_new wr _
  · rw [← hA]; exact (hTW.keep _ (lt_of_heap h1.arr) (fun h => h)).trans h1.arr

set_option maxRecDepth 100000 in
set_option maxHeartbeats 6400000 in
theorem dn_clone {mn hi : Nat} {arr : List (Option Nat)} (A0 : TA w t mp rp M O N nd wd S sh) (hp : N p) (hcl : (nd p).cl = .dn l a mn hi arr) (IH : ∀ c, c ∈ arr.filterMap id → CloneIH N wd nd w c) :
    Calls Tryz.prog 119 #[.pointer (some ⟨l, 0, none⟩)] w (CloneL N wd nd p w) := by
  have hraw := (A0.T.H p hp).raw
  have hnd := A0.T.I.nodup p hp
  rw [hcl] at hraw hnd
  obtain ⟨r1, r2, r3, r4, r5⟩ := hraw
  have c0 : w.cell? ⟨l, 0, none⟩ = some (.int .i64 mn) := by rw [cell_of_block r1]; rfl
  have c1 : w.cell? ⟨l, 1, none⟩ = some (.int .i64 ((mn : Int) + arr.length - 1)) := by rw [cell_of_block r1]; rfl
  have c2 : w.cell? ⟨l, 2, none⟩ = some (.int .i64 (arr.filterMap id).length) := by rw [cell_of_block r1]; rfl
  have c3 : w.cell? ⟨l, 3, none⟩ = some (.int .i64 hi) := by rw [cell_of_block r1]; rfl
  have c4 : w.cell? ⟨l, 4, none⟩ = some (.slice (some ⟨a, 0, none⟩) arr.length arr.length) := by rw [cell_of_block r1]; rfl
  have hlen : arr.length ≤ 256 := by omega
  have hmk := mk_tries2 arr.length arr.length (Nat.le_refl _) (by omega)
  have hcnt : (arr.filterMap id).length ≤ arr.length := List.length_filterMap_le _ _
  have HA := Lib.hid A0
  have HCL := Lib.hid hcl
  have HIH := Lib.hid IH
  have HR := Lib.hid (⟨r1, r2, r3, r4, r5, hnd⟩ : _ ∧ _ ∧ _ ∧ _ ∧ _ ∧ _)
  have HP := Lib.hid hp
  have keep : ∀ (W : World), Tch w W (fun _ => False) → W.cell? ⟨l, 0, none⟩ = some (.int .i64 mn) ∧ W.cell? ⟨l, 1, none⟩ = some (.int .i64 ((mn : Int) + arr.length - 1)) ∧ W.cell? ⟨l, 2, none⟩ = some (.int .i64 (arr.filterMap id).length) ∧ W.cell? ⟨l, 3, none⟩ = some (.int .i64 hi) ∧ W.cell? ⟨l, 4, none⟩ = some (.slice (some ⟨a, 0, none⟩) arr.length arr.length) := fun W hT => by
    have := hT.keep l (lt_of_heap r1) (fun h => h)
    refine ⟨?_, ?_, ?_, ?_, ?_⟩ <;> rw [World.cell?_of_block this] <;> assumption
  have HKEEP := Lib.hid keep
  clear A0 hp hcl IH r1 r4 r5 hnd keep
  have hstart : ∀ W1 : World, W1 = w.alloc (.cells (arrV (List.replicate arr.length none)) 41) → ∀ j, (∀ i, i < j → arr[i]? = some none) → DnC w N wd nd arr j (List.replicate arr.length none) (fun x => x) nd W1 := by
    intro W1 hW1 j hj
    have e : (arr.take j).filterMap id = [] := by
      rw [List.filterMap_eq_nil_iff]
      intro o ho
      obtain ⟨i, hi, e⟩ := List.mem_take_iff_getElem.1 ho
      have := hj i (by omega)
      rw [List.getElem?_eq_getElem (by omega)] at this
      injection this with this
      rw [← e, this]; rfl
    refine ⟨by rw [e]; exact CLp.start _ _ _ (by rw [hW1]) (by rw [hW1]; exact ⟨rfl, rfl, rfl⟩), List.length_replicate, fun i o hi ho => ?_, fun i _ hl => by rw [List.getElem?_replicate, if_pos hl]⟩
    rw [hj i hi] at ho
    injection ho with ho
    subst ho
    rw [List.getElem?_replicate, if_pos]
    · rfl
    · have := (List.getElem?_eq_some_iff.1 (hj i hi)).1; exact this
  have HST := Lib.hid hstart
  clear hstart
  have hT1 : Tch w (w.alloc (.cells (arrV (List.replicate arr.length none)) 41)) (fun _ => False) := (Tch.refl w _).alloc _
  have hk1 := HKEEP.out _ hT1
  have hst := HST.out _ rfl
  go_enter Tryz.func119, Tryz.ntmps119
  go_upto_region 2 with fail
  generalize w.alloc (.cells (arrV (List.replicate arr.length none)) 41) = W1 at hT1 hk1 hst ⊢
  obtain ⟨k0, k1, k2, k3, k4⟩ := hk1
  have HT1 := Lib.hid hT1
  have HS1 := Lib.hid hst
  clear hT1 hst c0 c1 c2 c3 c4 hmk HST
  by_cases hz : (arr.filterMap id).length = 0
  · have e1 : (((arr.filterMap id).length : Int) != 0) = false := by rw [bne_eq_false_iff_eq]; omega
    go_wp2_with fail
    go_region
    go_wp2_with fail
    go_ret
    have H := (HS1.out 0 (fun i hi => by omega)).all arr.length 0 (by omega) (rest_none (by rw [hz]; rfl))
    exact DnC.post HCL.out r2 r3 HR.out.2.2.2.1 H (by rw [hz]; rfl) ⟨rfl, rfl, rfl⟩
  · have e1 : (((arr.filterMap id).length : Int) != 0) = true := by rw [bne_iff_ne]; omega
    go_wp2_with fail
    go_loopw [4, 5] (fun cnt i wr => ∃ (j : Nat) (A : List (Option Nat)) (cn : Nat → Nat) (cd : Nat → Nd), cnt = .int .i64 (((arr.take j).filterMap id).length : Int) ∧ i = .int .i64 (j : Int) ∧ j ≤ arr.length ∧ Hid (DnC w N wd nd arr j A cn cd wr)) (fun _ i _ => arr.length - (intOf i).toNat)
    case atStart =>
      have h0 : ((arr.take hi).filterMap id).length = 0 := by
        rw [List.length_eq_zero_iff, List.filterMap_eq_nil_iff]
        intro o ho
        obtain ⟨i, hi', e⟩ := List.mem_take_iff_getElem.1 ho
        have := HR.out.2.2.2.1 i (by omega)
        rw [List.getElem?_eq_getElem (by omega)] at this
        injection this with this
        rw [← e, this]; rfl
      exact ⟨hi, _, _, _, by rw [h0]; rfl, rfl, by omega, HS1.out hi HR.out.2.2.2.1⟩
    case round =>
      obtain ⟨j, A, cn, cd, rfl, rfl, hjl, HI⟩ := hrel
      obtain ⟨q0, q1, q2, q3, q4⟩ := HKEEP.out wr HI.out.1.T
      have hcj : ((arr.take j).filterMap id).length ≤ 256 := by
        have := List.length_filterMap_le id (arr.take j)
        rw [List.length_take] at this; omega
      by_cases hj : j < arr.length
      · have hj' : (j : Int) < (arr.length : Int) := by omega
        obtain ⟨o, ho⟩ : ∃ o, arr[j]? = some o := ⟨_, List.getElem?_eq_getElem hj⟩
        have c5 : wr.cell? ⟨a, j, none⟩ = some (optr o) := by
          rw [World.cell?_of_block (HI.out.1.T.keep a (lt_of_heap HR.out.2.2.2.2.1) (fun h => h)), cell_of_block HR.out.2.2.2.2.1, List.getElem?_toArray, List.getElem?_map, ho]; rfl
        cases o with
        | none =>
          have HO := Lib.hid ho
          clear ho
          go_wp2_with fail
          go_roundw
          case rel => exact ⟨j + 1, A, cn, cd, by rw [List.take_add_one, HO.out, List.filterMap_append]; simp, by go_num, by omega, HI.out.skip HO.out⟩
          case measure => simp [intOf]; omega
        | some c =>
          have hcm : c ∈ arr.filterMap id := mem_fm.2 (List.mem_of_getElem? ho)
          have HC := Lib.hid ho
          have HCALL := Lib.hid (HIH.out c hcm wr HI.out.1.T)
          clear ho hcm
          go_wp2_with fail
          refine HCALL.out.mono ?_
          rintro e wr2 ⟨cn2, cd2, rfl, hT2, hS2⟩
          have harr : wr2.heap[w.heap.size]? = some (.cells (arrV A) 41 (0, 0)) := (hT2.keep _ (lt_of_heap HI.out.1.arr) (fun h => h)).trans HI.out.1.arr
          obtain ⟨x, hx⟩ : ∃ x, A[j]? = some x := ⟨_, List.getElem?_eq_getElem (by rw [HI.out.2.1]; exact hj)⟩
          have d0 : wr2.cell? ⟨w.heap.size, j, none⟩ = some (optr x) := by rw [cell_of_block harr, arrV_get, hx]; rfl
          have d1 := free_of_block harr j
          have hstep := HI.out.step HA.out HP.out (fun d hd => by rw [HCL.out]; exact hd) HR.out.2.2.2.2.2 HC.out hT2 hS2 (wr3 := wr2.setCell ⟨w.heap.size, j, none⟩ (.pointer (some ⟨cn2 c, 0, none⟩))) rfl ⟨rfl, rfl, rfl⟩
          obtain ⟨A3, cn3, cd3, hS3⟩ := hstep
          obtain ⟨u0, u1, u2, u3, u4⟩ := HKEEP.out _ hS3.1.T
          have HS3 := Lib.hid hS3
          have htk : ((arr.take (j + 1)).filterMap id).length = ((arr.take j).filterMap id).length + 1 := by rw [List.take_add_one, HC.out, List.filterMap_append]; simp
          have HTK := Lib.hid htk
          have w1 : IntKind.i64.wrap ((((arr.take j).filterMap id).length : Int) + 1) = (((arr.take j).filterMap id).length : Int) + 1 := IntWalk.i64_in _ (by omega)
          clear hT2 hS2 harr hx hS3 htk q0 q1 q2 q3 q4
          by_cases hb : ((arr.take j).filterMap id).length + 1 = (arr.filterMap id).length
          · have e2 : (((((arr.take j).filterMap id).length : Int) + 1) == ((arr.filterMap id).length : Int)) = true := by rw [beq_iff_eq]; omega
            have HB := Lib.hid hb
            clear hb
            go_wp2_with fail
            have hfin := HS3.out.all (arr.length - (j + 1)) (j + 1) (by omega) (rest_none (by rw [HTK.out]; exact HB.out))
            have HFIN := Lib.hid hfin
            clear hfin
            generalize wr2.setCell ⟨w.heap.size, j, none⟩ (.pointer (some ⟨cn2 c, 0, none⟩)) = W3 at u0 u1 u2 u3 u4 HFIN ⊢
            go_region
            go_wp2_with fail
            go_ret
            exact DnC.post HCL.out r2 r3 HR.out.2.2.2.1 HFIN.out rfl ⟨rfl, rfl, rfl⟩
          · have e2 : (((((arr.take j).filterMap id).length : Int) + 1) == ((arr.filterMap id).length : Int)) = false := by rw [beq_eq_false_iff_ne]; omega
            clear hb
            go_wp2_with fail
            go_roundw
            case rel => exact ⟨j + 1, A3, cn3, cd3, by rw [HTK.out]; go_num, by go_num, by omega, HS3⟩
            case measure => simp [intOf]; omega
      · have hj' : ¬ (j : Int) < (arr.length : Int) := by omega
        obtain rfl : j = arr.length := by omega
        go_wp2_with fail
        go_region
        go_wp2_with fail
        go_ret
        exact DnC.post HCL.out r2 r3 HR.out.2.2.2.1 HI.out rfl ⟨rfl, rfl, rfl⟩
end

end Go.Proofs.YtmdbnjepajifpaaGreat
