/- newDenseChildList makes a dense list of a full sparse list's children and one more; add of a sparse list, in both cases. -/
import Derived.Test.YtmdbnjepajifpaaSpAdd
namespace Go.Proofs.Ytmdbnjepajifpaa
open Go.RowKit

def mnS (m b : Nat) : Nat := if b < m then b else m
def mxS (m b : Nat) : Nat := if m < b then b else m
def mnOf (fb : Nat → UInt8) (l : List Nat) : Nat := l.foldl (fun m x => mnS m (fb x).toNat) 255
def mxOf (fb : Nat → UInt8) (l : List Nat) : Nat := l.foldl (fun m x => mxS m (fb x).toNat) 0

/-- Pointers, or nil, as cells. -/
def arrV (A : List (Option Nat)) : Array Value := (A.map optr).toArray
def fillA (fb : Nat → UInt8) (mn n : Nat) (l : List Nat) : List (Option Nat) := l.foldl (fun A x => A.set ((fb x).toNat - mn) (some x)) (List.replicate n none)

theorem mnS_le (m b : Nat) : mnS m b ≤ m ∧ mnS m b ≤ b := by unfold mnS; split <;> omega
theorem mxS_le (m b : Nat) : m ≤ mxS m b ∧ b ≤ mxS m b := by unfold mxS; split <;> omega

theorem take_snoc' {α : Type} {l : List α} {k : Nat} {c : α} (h : l[k]? = some c) : l.take (k + 1) = l.take k ++ [c] := by
  obtain ⟨hk, rfl⟩ := List.getElem?_eq_some_iff.1 h
  exact List.take_succ_eq_append_getElem hk

theorem mnOf_snoc (fb : Nat → UInt8) (l : List Nat) (c : Nat) : mnOf fb (l ++ [c]) = mnS (mnOf fb l) (fb c).toNat := by simp [mnOf]
theorem mxOf_snoc (fb : Nat → UInt8) (l : List Nat) (c : Nat) : mxOf fb (l ++ [c]) = mxS (mxOf fb l) (fb c).toNat := by simp [mxOf]
theorem fillA_snoc (fb : Nat → UInt8) (mn n : Nat) (l : List Nat) (c : Nat) : fillA fb mn n (l ++ [c]) = (fillA fb mn n l).set ((fb c).toNat - mn) (some c) := by simp [fillA]

theorem mnOf_le (fb : Nat → UInt8) : ∀ (l : List Nat) (m : Nat), l.foldl (fun m x => mnS m (fb x).toNat) m ≤ m ∧ ∀ x, x ∈ l → l.foldl (fun m x => mnS m (fb x).toNat) m ≤ (fb x).toNat
  | [], m => ⟨Nat.le_refl _, fun x hx => by cases hx⟩
  | a :: l, m => by
    obtain ⟨h1, h2⟩ := mnOf_le fb l (mnS m (fb a).toNat)
    have h3 := mnS_le m (fb a).toNat
    refine ⟨Nat.le_trans h1 h3.1, fun x hx => ?_⟩
    rcases List.mem_cons.1 hx with rfl | hx
    · exact Nat.le_trans h1 h3.2
    · exact h2 x hx
theorem mxOf_ge (fb : Nat → UInt8) : ∀ (l : List Nat) (m : Nat), m ≤ l.foldl (fun m x => mxS m (fb x).toNat) m ∧ (m ≤ 255 → l.foldl (fun m x => mxS m (fb x).toNat) m ≤ 255) ∧ ∀ x, x ∈ l → (fb x).toNat ≤ l.foldl (fun m x => mxS m (fb x).toNat) m
  | [], m => ⟨Nat.le_refl _, fun h => h, fun x hx => by cases hx⟩
  | a :: l, m => by
    obtain ⟨h1, h4, h2⟩ := mxOf_ge fb l (mxS m (fb a).toNat)
    have h3 := mxS_le m (fb a).toNat
    have h5 : (fb a).toNat < 256 := (fb a).toNat_lt
    refine ⟨Nat.le_trans h3.1 h1, fun h => h4 (by unfold mxS; split <;> omega), fun x hx => ?_⟩
    rcases List.mem_cons.1 hx with rfl | hx
    · exact Nat.le_trans h3.2 h1
    · exact h2 x hx

theorem filter_set {A : List (Option Nat)} {i x : Nat} (h : A[i]? = some none) : ((A.set i (some x)).filterMap id).Perm (x :: A.filterMap id) := by
  induction A generalizing i with
  | nil => simp at h
  | cons a A ih =>
    cases i with
    | zero =>
      simp at h; subst h
      simp
    | succ i =>
      simp at h
      have := ih h
      cases a with
      | none => simpa using this
      | some y =>
        simp only [List.set_cons_succ, List.filterMap_cons, id]
        exact (this.cons y).trans (List.Perm.swap x y _)

theorem snoc_ind {α : Type} {P : List α → Prop} (h0 : P []) (h1 : ∀ l a, P l → P (l ++ [a])) (l : List α) : P l := by
  have : ∀ r : List α, P r.reverse := fun r => by
    induction r with
    | nil => exact h0
    | cons a r ih => rw [List.reverse_cons]; exact h1 _ a ih
  have h := this l.reverse
  rwa [List.reverse_reverse] at h

theorem fillA_len (fb : Nat → UInt8) (mn n : Nat) (l : List Nat) : (fillA fb mn n l).length = n := by
  refine snoc_ind (P := fun l => (fillA fb mn n l).length = n) ?_ ?_ l
  · simp [fillA]
  · intro l c ih; rw [fillA_snoc, List.length_set]; exact ih

/-- What the filled places are. -/
theorem fillA_spec (fb : Nat → UInt8) (mn n : Nat) : ∀ (l : List Nat), (∀ x, x ∈ l → mn ≤ (fb x).toNat ∧ (fb x).toNat < mn + n) → (∀ x y, x ∈ l → y ∈ l → fb x = fb y → x = y) → l.Nodup →
    (fillA fb mn n l).length = n ∧ ((fillA fb mn n l).filterMap id).Perm l ∧ (∀ (i c : Nat), (fillA fb mn n l)[i]? = some (some c) → c ∈ l ∧ (fb c).toNat = mn + i) := by
  intro l
  refine snoc_ind (P := fun l => (∀ x, x ∈ l → mn ≤ (fb x).toNat ∧ (fb x).toNat < mn + n) → (∀ x y, x ∈ l → y ∈ l → fb x = fb y → x = y) → l.Nodup →
    (fillA fb mn n l).length = n ∧ ((fillA fb mn n l).filterMap id).Perm l ∧ (∀ (i c : Nat), (fillA fb mn n l)[i]? = some (some c) → c ∈ l ∧ (fb c).toNat = mn + i)) ?_ ?_ l
  · intro _ _ _
    refine ⟨by simp [fillA], ?_, fun i c h => ?_⟩
    · simp [fillA]
    · simp [fillA, List.getElem?_replicate] at h
  · intro l c ih h1 h2 h3
    have h3' := List.nodup_append.1 h3
    obtain ⟨e1, e2, e3⟩ := ih (fun x hx => h1 x (by simp [hx])) (fun x y hx hy => h2 x y (by simp [hx]) (by simp [hy])) h3'.1
    have hc := h1 c (by simp)
    rw [fillA_snoc]
    have hfree : (fillA fb mn n l)[(fb c).toNat - mn]? = some none := by
      have hlt : (fb c).toNat - mn < (fillA fb mn n l).length := by omega
      cases hx : (fillA fb mn n l)[(fb c).toNat - mn]? with
      | none => rw [List.getElem?_eq_none_iff] at hx; omega
      | some y =>
        cases y with
        | none => rfl
        | some d =>
          exfalso
          obtain ⟨hd, hdb⟩ := e3 _ d hx
          have : d = c := h2 d c (by simp [hd]) (by simp) (UInt8.toNat_inj.1 (by omega))
          exact h3'.2.2 d hd c (by simp) this
    refine ⟨by simpa using e1, ?_, fun i d h => ?_⟩
    · exact (filter_set hfree).trans ((e2.cons c).trans (by simpa using (List.perm_append_comm (l₁ := [c]) (l₂ := l))))
    · rw [List.getElem?_set] at h
      split at h
      · rename_i hi
        split at h
        · simp at h; subst h
          exact ⟨by simp, by omega⟩
        · cases h
      · obtain ⟨hd, hdb⟩ := e3 i d h
        exact ⟨by simp [hd], hdb⟩

theorem arrV_nil (n : Nat) : madeCells (Value.pointer none).cells (n * 1) = arrV (List.replicate n none) := by
  apply Array.ext
  · simp [size_madeCells, arrV]
  · intro i h1 h2
    have : i % 1 = 0 := Nat.mod_one i
    simp [madeCells, arrV, Value.cells, this]

theorem arrV_set (A : List (Option Nat)) (i x : Nat) : (arrV A).setIfInBounds i (.pointer (some ⟨x, 0, none⟩)) = arrV (A.set i (some x)) := by
  simp [arrV, List.map_set]

theorem arrV_get (A : List (Option Nat)) (i : Nat) : (arrV A)[i]? = (A[i]?).map optr := by simp [arrV]

theorem mk_ptrs (n : Nat) (E : Int) (hE : E = n) (h : n ≤ 100000) (W : World) :
    (Instr.makeSlice 83 (.int .i64 E) (.int .i64 E)).run Try.prog W = .ok (.slice (some ⟨W.heap.size, 0, none⟩) n n) (W.alloc (.cells (arrV (List.replicate n none)) 50)) := by
  obtain ⟨i0, hi, hz0, hz1, hz2⟩ := info_parts infoPtr
  subst hE
  rw [run_make (P := Try.prog) W 83 50 i0 (.pointer none) Try.underlying83 hi hz0 .i64 .i64 n n (by omega) (Int.le_refl _) (by rw [hz2]; omega) (by omega)]
  simp only [Int.toNat_natCast, hz1, arrV_nil]

/-- What newDenseChildList leaves. -/
def NewDenseP (w : World) (fb : Nat → UInt8) (ks : List Nat) (c : Nat) (e : Ending) (w' : World) : Prop :=
  ∃ l a mn arr, e = .returned (CL.dn l a mn 0 arr).val ∧ CLraw w' (.dn l a mn 0 arr) ∧ (CL.dn l a mn 0 arr).kids.Perm (c :: ks) ∧ (CL.dn l a mn 0 arr).placed fb ∧
    w.heap.size ≤ l ∧ w.heap.size ≤ a ∧ l < w'.heap.size ∧ a < w'.heap.size ∧ Tch w w' (fun _ => False)

theorem newDense_post {w : World} {fb : Nat → UInt8} {ks : List Nat} {c mn mx n n1 : Nat} {A : List (Option Nat)}
    (hA : A = fillA fb mn n (ks ++ [c])) (h1 : mx + 1 ≤ mn + n) (h2 : mn + n ≤ mx + 1) (hlo : ∀ x, x ∈ ks ++ [c] → mn ≤ (fb x).toNat) (hhi : ∀ x, x ∈ ks ++ [c] → (fb x).toNat ≤ mx) (hmx : mx ≤ 255) (hpos : 0 < n)
    (hne : ∀ x y, x ∈ c :: ks → y ∈ c :: ks → fb x = fb y → x = y) (hnd : (c :: ks).Nodup) :
    NewDenseP w fb ks c (.returned (.iface 145 (.pointer (some ⟨w.heap.size + 1, 0, none⟩))))
      (((w.alloc (.cells (arrV A) 50)).drewN n1).alloc (.cells #[.int .i64 mn, .int .i64 mx, .int .i64 ((ks.length : Int) + 1), .int .i64 0, .slice (some ⟨w.heap.size, 0, none⟩) n n] 147)) := by
  have hp : (ks ++ [c]).Perm (c :: ks) := List.perm_append_comm
  have hm : ∀ x, x ∈ ks ++ [c] ↔ x ∈ c :: ks := fun x => hp.mem_iff
  obtain ⟨e1, e2, e3⟩ := fillA_spec fb mn n (ks ++ [c]) (fun x hx => ⟨hlo x hx, by have := hhi x hx; omega⟩) (fun x y hx hy => hne x y ((hm x).1 hx) ((hm y).1 hy)) (hp.nodup_iff.2 hnd)
  rw [← hA] at e1 e2 e3
  have hT : Tch w (((w.alloc (.cells (arrV A) 50)).drewN n1).alloc (.cells #[.int .i64 mn, .int .i64 mx, .int .i64 ((ks.length : Int) + 1), .int .i64 0, .slice (some ⟨w.heap.size, 0, none⟩) n n] 147)) (fun _ => False) :=
    (((Tch.refl w _).alloc _).drn n1).alloc _
  have hlen : (A.filterMap id).length = ks.length + 1 := by rw [e2.length_eq]; simp
  have ha : (((w.alloc (.cells (arrV A) 50)).drewN n1).alloc (.cells #[.int .i64 mn, .int .i64 mx, .int .i64 ((ks.length : Int) + 1), .int .i64 0, .slice (some ⟨w.heap.size, 0, none⟩) n n] 147)).heap[w.heap.size]? = some (.cells (arrV A) 50 (0, 0)) :=
    heap_al (w := (w.alloc (.cells (arrV A) 50)).drewN n1) (heap_new w _)
  have hl : (((w.alloc (.cells (arrV A) 50)).drewN n1).alloc (.cells #[.int .i64 mn, .int .i64 mx, .int .i64 ((ks.length : Int) + 1), .int .i64 0, .slice (some ⟨w.heap.size, 0, none⟩) n n] 147)).heap[w.heap.size + 1]? = some (.cells #[.int .i64 mn, .int .i64 mx, .int .i64 ((ks.length : Int) + 1), .int .i64 0, .slice (some ⟨w.heap.size, 0, none⟩) n n] 147 (0, 0)) := by
    have := heap_new ((w.alloc (.cells (arrV A) 50)).drewN n1) (.cells #[.int .i64 mn, .int .i64 mx, .int .i64 ((ks.length : Int) + 1), .int .i64 0, .slice (some ⟨w.heap.size, 0, none⟩) n n] 147)
    rw [World.heap_drewN, World.size_alloc] at this
    exact this
  refine ⟨w.heap.size + 1, w.heap.size, mn, A, rfl, ⟨?_, by omega, by omega, fun j hj => by omega, ha⟩, e2.trans hp, fun i d h => (e3 i d h).2, by omega, Nat.le_refl _, lt_of_heap hl, lt_of_heap ha, hT⟩
  rw [hl, hlen, e1]
  have x1 : ((mn : Int) + (n : Int) - 1) = (mx : Int) := by omega
  rw [x1]
  rfl

set_option maxHeartbeats 6400000 in
set_option maxRecDepth 100000 in
theorem newDense_any (w : World) (fb : Nat → UInt8) (l a cap : Nat) (ks : List Nat) (c : Nat) (hraw : CLraw w (.sp l a cap ks)) (hkb : ∀ x, x ∈ ks → FB w x (fb x)) (hcb : FB w c (fb c))
    (hne : ∀ x y, x ∈ c :: ks → y ∈ c :: ks → fb x = fb y → x = y) (hnd : (c :: ks).Nodup) :
    Calls Try.prog 121 #[ptr l, ptr c] w (NewDenseP w fb ks c) := by
  have hlen := sp_len w l a cap ks hraw
  obtain ⟨hl, hcap, hc2, C, ha, hC, hk⟩ := hraw
  have c0 : w.cell? ⟨l, 0, none⟩ = some (.slice (some ⟨a, 0, none⟩) ks.length cap) := by rw [cell_of_block hl]; rfl
  have hcells : ∀ (i c : Nat), ks[i]? = some c → w.cell? ⟨a, i, none⟩ = some (ptr c) := fun i c h => by rw [cell_of_block ha]; exact hk i c h
  obtain ⟨sb, so, n, cp, d2, hn, d3⟩ := hcb
  have HC := Lib.hid hcells
  have HK := Lib.hid hkb
  have HNE := Lib.hid hne
  have HND := Lib.hid hnd
  have HLEN := Lib.hid hlen
  have hcl : ks.length ≤ 1000 := by omega
  clear hl ha hC hk hcells hkb hne hnd hlen
  go_enter Try.func121, Try.ntmps121
  go_wp2_with fail
  go_loop [5, 6, 19] (fun m x i => ∃ k : Nat, k ≤ ks.length ∧ i = .int .i64 k ∧ m = .int .i64 (mnOf fb (ks.take k) : Nat) ∧ x = .int .i64 (mxOf fb (ks.take k) : Nat)) (fun _ _ i => ks.length - (intOf i).toNat)
  case atStart => exact ⟨0, Nat.zero_le _, rfl, rfl, rfl⟩
  case round =>
    obtain ⟨k, hkk, rfl, rfl, rfl⟩ := hrel
    obtain ⟨mn, hmn⟩ : ∃ m, mnOf fb (ks.take k) = m := ⟨_, rfl⟩
    obtain ⟨mx, hmx⟩ : ∃ m, mxOf fb (ks.take k) = m := ⟨_, rfl⟩
    have hmn255 : mn ≤ 255 := by rw [← hmn]; exact (mnOf_le fb _ 255).1
    have hmx255 : mx ≤ 255 := by rw [← hmx]; exact (mxOf_ge fb _ 0).2.1 (by omega)
    rw [hmn, hmx]
    have HMN := Lib.hid hmn
    have HMX := Lib.hid hmx
    clear hmn hmx
    by_cases h1 : k < ks.length
    · obtain ⟨x, hx⟩ : ∃ c, ks[k]? = some c := ⟨ks[k], by simp [h1]⟩
      have c1 := HC.out k x hx
      obtain ⟨sb1, so1, n1, cp1, c2, hn1, c3⟩ := HK.out x (List.mem_of_getElem? hx)
      have g1 : (k : Int) < (ks.length : Int) := by omega
      have hb256 : (fb x).toNat < 256 := (fb x).toNat_lt
      have HX := Lib.hid hx
      clear hx d2 d3 hn
      go_wp2_with fail
      all_goals
        go_round
        case rel => exact ⟨k + 1, by omega, by go_num, by rw [take_snoc' HX.out, mnOf_snoc, HMN.out]; unfold mnS; split <;> first | rfl | (exfalso; omega), by rw [take_snoc' HX.out, mxOf_snoc, HMX.out]; unfold mxS; split <;> first | rfl | (exfalso; omega)⟩
        case measure => simp [intOf]; omega
    · have hb256 : (fb c).toNat < 256 := (fb c).toNat_lt
      go_upto_if 48 with (fail)
      go_cut [5] from 14 to 101 (fun m wx => m = .int .i64 (mnS mn (fb c).toNat : Nat) ∧ wx = w)
      case first =>
        go_wp2_with fail
        all_goals
          go_meet
          exact ⟨by unfold mnS; split <;> first | rfl | (exfalso; omega), rfl⟩
      case rest =>
        obtain ⟨rfl, rfl⟩ := hcut
        go_upto_if 52 with (fail)
        go_cut [6] from 14 to 101 (fun m wx => m = .int .i64 (mxS mx (fb c).toNat : Nat) ∧ wx = wc)
        case first =>
          go_wp2_with fail
          all_goals
            go_meet
            exact ⟨by unfold mxS; split <;> first | rfl | (exfalso; omega), rfl⟩
        case rest =>
          obtain ⟨rfl, rfl⟩ := hcut
          have hks : ks.take k = ks := List.take_of_length_le (by omega)
          have hA := mnS_le mn (fb c).toNat
          have hB := mxS_le mx (fb c).toNat
          have hlo : ∀ x, x ∈ ks → mnS mn (fb c).toNat ≤ (fb x).toNat := fun x hx => by
            have := (mnOf_le fb ks 255).2 x hx
            have h2 := HMN.out
            rw [hks] at h2
            unfold mnOf at h2
            omega
          have hhi : ∀ x, x ∈ ks → (fb x).toNat ≤ mxS mx (fb c).toNat := fun x hx => by
            have := (mxOf_ge fb ks 0).2.2 x hx
            have h2 := HMX.out
            rw [hks] at h2
            unfold mxOf at h2
            omega
          have hmx2 : mxS mx (fb c).toNat ≤ 255 := by unfold mxS; split <;> omega
          clear HMN HMX hks
          generalize mnS mn (fb c).toNat = mnA at *
          generalize mxS mx (fb c).toNat = mxA at *
          obtain ⟨N, hN⟩ : ∃ N, mxA + 1 - mnA = N := ⟨_, rfl⟩
          have hmk := mk_ptrs N ((mxA : Int) - (mnA : Int) + 1) (by omega) (by omega)
          have HNN := Lib.hid hN
          have hN1 : mxA + 1 ≤ mnA + N := by omega
          have hN2 : mnA + N ≤ mxA + 1 := by omega
          have HLO := Lib.hid hlo
          have HHI := Lib.hid hhi
          clear hN hlo hhi
          have hlw : l < wc.heap.size := World.block_lt_of_cell? wc ⟨l, 0, none⟩ c0
          go_wp2_with fail
          go_loopw [64] (fun i wr => ∃ k : Nat, k ≤ ks.length ∧ i = .int .i64 k ∧ wr = wc.alloc (.cells (arrV (fillA fb mnA N (ks.take k))) 50)) (fun i _ => ks.length - (intOf i).toNat)
          case atStart => exact ⟨0, Nat.zero_le _, rfl, rfl⟩
          case round =>
            obtain ⟨j, hjk, rfl, rfl⟩ := hrel
            obtain ⟨F, hF⟩ : ∃ F, fillA fb mnA N (ks.take j) = F := ⟨_, rfl⟩
            have hFl : F.length = N := by rw [← hF]; exact fillA_len fb mnA N _
            rw [hF]
            have HF := Lib.hid hF
            have c0' : (wc.alloc (.cells (arrV F) 50)).cell? ⟨l, 0, none⟩ = some (.slice (some ⟨a, 0, none⟩) ks.length cap) := by rw [World.cell?_alloc_lt _ _ _ hlw]; exact c0
            have old : ∀ {p : Addr} {v : Value}, wc.cell? p = some v → (wc.alloc (.cells (arrV F) 50)).cell? p = some v := fun {p v} h => by
              rw [World.cell?_alloc_lt _ _ _ (World.block_lt_of_cell? wc p h)]; exact h
            have hat : ∀ i, i < N → ∃ v, (wc.alloc (.cells (arrV F) 50)).cell? ⟨wc.heap.size, i, none⟩ = some v := fun i hi => by
              rw [World.cell?_alloc_new, arrV_get, List.getElem?_eq_getElem (by omega)]; exact ⟨_, rfl⟩
            have hfr : ∀ i, (wc.alloc (.cells (arrV F) 50)).frozen? ⟨wc.heap.size, i, none⟩ = false := fun i => World.frozen?_alloc_new _ _ _ _
            have hst : ∀ i x, (wc.alloc (.cells (arrV F) 50)).setCell ⟨wc.heap.size, i, none⟩ (.pointer (some ⟨x, 0, none⟩)) = wc.alloc (.cells (arrV (F.set i (some x))) 50) := fun i x => by
              rw [World.setCell_alloc_at _ _ _ _ _ rfl, arrV_set]
            generalize hW : wc.alloc (.cells (arrV F) 50) = W at *
            have HW := Lib.hid hW
            have HST := Lib.hid hst
            clear hF hW hst c0
            by_cases h2 : j < ks.length
            · obtain ⟨x, hx⟩ : ∃ c, ks[j]? = some c := ⟨ks[j], by simp [h2]⟩
              have c1 := old (HC.out j x hx)
              obtain ⟨sb1, so1, n1, cp1, e2, hn1, e3⟩ := HK.out x (List.mem_of_getElem? hx)
              have c2 := old e2
              have c3 := old e3
              have hxm := List.mem_of_getElem? hx
              have x1 := HLO.out x hxm
              have x2 := HHI.out x hxm
              have hb256 : (fb x).toNat < 256 := (fb x).toNat_lt
              obtain ⟨v, c4⟩ := hat ((fb x).toNat - mnA) (by omega)
              have f4 := hfr ((fb x).toNat - mnA)
              have HX := Lib.hid hx
              have g1 : (j : Int) < (ks.length : Int) := by omega
              have i1 : (0 : Int) ≤ ((fb x).toNat : Int) - (mnA : Int) := by omega
              have i2 : ((fb x).toNat : Int) - (mnA : Int) < (N : Int) := by omega
              have i3 : (((fb x).toNat : Int) - (mnA : Int)).toNat = (fb x).toNat - mnA := by omega
              clear hx e2 e3 d2 d3 old hat hfr hxm
              go_wp2_with fail
              go_roundw
              case rel => exact ⟨j + 1, by omega, by go_num, by rw [take_snoc' HX.out, fillA_snoc, HF.out]; exact HST.out _ _⟩
              case measure => simp [intOf]; omega
            · have c2 := old d2
              have c3 := old d3
              obtain ⟨v, c4⟩ := hat ((fb c).toNat - mnA) (by omega)
              have f4 := hfr ((fb c).toNat - mnA)
              have i1 : (0 : Int) ≤ ((fb c).toNat : Int) - (mnA : Int) := by omega
              have i2 : ((fb c).toNat : Int) - (mnA : Int) < (N : Int) := by omega
              have i3 : (((fb c).toNat : Int) - (mnA : Int)).toNat = (fb c).toNat - mnA := by omega
              have c5 : (W.setCell ⟨wc.heap.size, (fb c).toNat - mnA, none⟩ (.pointer (some ⟨c, 0, none⟩))).cell? ⟨l, 0, none⟩ = some (.slice (some ⟨a, 0, none⟩) ks.length cap) := by
                rw [World.cell?_setCell_other _ _ _ _ (by intro h; injection h with h; omega)]; exact c0'
              have c6 := sp_len0 _ l ks.length _ cap c5
              have C6 := Lib.hid c6
              clear d2 d3 old hat hfr c5 c6 HLEN
              go_wp2_with fail
              refine C6.out.mono ?_
              rintro e w' ⟨rfl, n1, rfl⟩
              have hw1 := HST.out ((fb c).toNat - mnA) c
              rw [hw1]
              have HWX := Lib.hid hw1
              clear hw1 C6
              go_wp2_with fail
              go_ret
              have hkj : ks.take j = ks := List.take_of_length_le (by omega)
              refine newDense_post (mx := mxA) (by rw [← HF.out, hkj, fillA_snoc]) hN1 hN2 ?_ ?_ (by omega) (by omega) HNE.out HND.out
              · intro x hx
                rcases List.mem_append.1 hx with hx | hx
                · exact HLO.out x hx
                · simp at hx; subst hx; exact hA.2
              · intro x hx
                rcases List.mem_append.1 hx with hx | hx
                · exact HHI.out x hx
                · simp at hx; subst hx; exact hB.2

/-- add of a sparse list. -/
theorem sp_add_full (w : World) (fb : Nat → UInt8) (l a cap : Nat) (ks : List Nat) (c : Nat) (hraw : CLraw w (.sp l a cap ks)) (hfull : ks.length = cap) (hkb : ∀ x, x ∈ ks → FB w x (fb x)) (hcb : FB w c (fb c))
    (hne : ∀ x y, x ∈ c :: ks → y ∈ c :: ks → fb x = fb y → x = y) (hnd : (c :: ks).Nodup) :
    Calls Try.prog 112 #[ptr l, ptr c] w (AddP w fb (.sp l a cap ks) c) := by
  have hd := fun n => newDense_any (w.drewN n) fb l a cap ks c (hraw.dr n) hkb hcb hne hnd
  obtain ⟨hl, hcap, hc2, C, ha, hC, hk⟩ := hraw
  have c0 : w.cell? ⟨l, 0, none⟩ = some (.slice (some ⟨a, 0, none⟩) ks.length cap) := by rw [cell_of_block hl]; rfl
  have g1 : ((ks.length : Int) != (cap : Int)) = false := by rw [bne_eq_false_iff_eq]; omega
  have HD := Lib.hid hd
  have HF := Lib.hid hfull
  clear hl ha hk hC hd hkb hne hnd hcb hfull
  go_enter Try.func112, Try.ntmps112
  go_wp2_with fail
  go_quiet (fail)
  go_wp2_with fail
  refine (HD.out _).mono ?_
  rintro e w' ⟨l', a', mn, arr, rfl, h1, h2, h3, h4, h5, h6, h7, h8⟩
  have HH : Hid (AddP w fb (.sp l a cap ks) c (.returned (CL.dn l' a' mn 0 arr).val) w') :=
    (⟨_, rfl, h1, h2, h3, .inr h4, .inr h5, h6, h7, ((Tch.dr nq).trans h8 (fun _ _ h => h.elim))⟩ : AddP w fb (.sp l a cap ks) c (.returned (CL.dn l' a' mn 0 arr).val) w')
  clear h1 h2 h3 h4 h5 h6 h7 h8
  go_wp2_with fail
  go_ret
  exact HH.out

end Go.Proofs.Ytmdbnjepajifpaa
