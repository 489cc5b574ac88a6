/- Tries in memory, part C2. Lemmas; no statement of their own. -/
import Derived.Test.YtmdbnjepajifpaaC1
import Derived.Laws.CopyOwn
import Derived.Deep.RegionLawGrows

/- What a call may have turned: a set of old blocks; all other old blocks are as they were. -/
set_option linter.unusedVariables false
set_option linter.unusedSimpArgs false
namespace Go.Proofs.Ytmdbnjepajifpaa
open Go.RowKit

structure Tch (w w' : World) (T : Nat → Prop) : Prop where
  os : w'.os = w.os
  tape : w'.tape = w.tape
  output : w'.output = w.output
  size : w.heap.size ≤ w'.heap.size
  keep : ∀ k, k < w.heap.size → ¬ T k → w'.heap[k]? = w.heap[k]?

section
variable {w w1 w2 : World} {T U : Nat → Prop}
theorem Tch.refl (w : World) (T : Nat → Prop) : Tch w w T := ⟨rfl, rfl, rfl, Nat.le_refl _, fun _ _ _ => rfl⟩
theorem Tch.dr (n : Nat) : Tch w (w.drewN n) T := ⟨rfl, rfl, rfl, Nat.le_refl _, fun _ _ _ => rfl⟩
theorem Tch.trans (h : Tch w w1 T) (k : Tch w1 w2 U) (hu : ∀ b, b < w.heap.size → U b → T b) : Tch w w2 T :=
  ⟨k.os.trans h.os, k.tape.trans h.tape, k.output.trans h.output, Nat.le_trans h.size k.size, fun b hb hn => (k.keep b (Nat.lt_of_lt_of_le hb h.size) (fun hu' => hn (hu b hb hu'))).trans (h.keep b hb hn)⟩
theorem Tch.mono (h : Tch w w1 T) (hu : ∀ b, b < w.heap.size → T b → U b) : Tch w w1 U := ⟨h.os, h.tape, h.output, h.size, fun b hb hn => h.keep b hb (fun ht => hn (hu b hb ht))⟩
theorem Tch.drn (h : Tch w w1 T) (n : Nat) : Tch w (w1.drewN n) T := ⟨h.os, h.tape, h.output, h.size, h.keep⟩
theorem Tch.drw (h : Tch w w1 T) : Tch w w1.drew T := ⟨h.os, h.tape, h.output, h.size, h.keep⟩
theorem Tch.alloc (h : Tch w w1 T) (o : Obj) : Tch w (w1.alloc o) T :=
  h.trans (U := T) ⟨rfl, rfl, rfl, by simp, fun k hk _ => Below.heap_alloc _ _ _ hk⟩ (fun _ _ h => h)
theorem Tch.setCell (h : Tch w w1 T) (p : Addr) (u : Value) (hp : p.block < w.heap.size → T p.block) : Tch w (w1.setCell p u) T :=
  h.trans (U := fun k => k = p.block) ⟨rfl, rfl, rfl, by simp, fun k _ hn => Below.heap_setCell _ _ _ _ hn⟩ (fun b hb e => by subst e; exact hp hb)
theorem Tch.grown (h : Tch w w1 T) {row : Option Nat} (hg : w1.grownBy w2 row) (hp : ∀ b, row = some b → b < w.heap.size → T b) : Tch w w2 T :=
  h.trans (U := fun k => some k = row) ⟨hg.os, hg.tape, hg.output, hg.size, fun k hk hn => hg.block k hk hn⟩ (fun b hb e => hp b e.symm hb)
theorem Tch.lt (h : Tch w w1 T) {b : Nat} (hb : b < w.heap.size) : b < w1.heap.size := Nat.lt_of_lt_of_le hb h.size
theorem Tch.below (h : Tch w w1 T) {B : Nat} (hB : ∀ b, b < w.heap.size → T b → B ≤ b) (hw : B ≤ w.heap.size) : Below B w w1 :=
  ⟨h.os, h.tape, h.output, h.size, fun k hk => h.keep k (by omega) (fun ht => by have := hB k (by omega) ht; omega)⟩
end

theorem lt_of_heap {w : World} {b : Nat} {o : Obj} (h : w.heap[b]? = some o) : b < w.heap.size := (Array.getElem?_eq_some_iff.1 h).1

/-! a block behind a store -/
theorem heap_set {w : World} {b i : Nat} {C : Array Value} {t : TypeId} {fr : Nat × Nat} (h : w.heap[b]? = some (.cells C t fr)) (v : Value) :
    (w.setCell ⟨b, i, none⟩ v).heap[b]? = some (.cells (C.setIfInBounds i v) t fr) := by
  simp [World.setCell, Array.getElem?_modify, h]
theorem heap_set_ne {w : World} {b i k : Nat} (h : k ≠ b) (v : Value) : (w.setCell ⟨b, i, none⟩ v).heap[k]? = w.heap[k]? := Below.heap_setCell _ _ _ _ h
theorem heap_al {w : World} {k : Nat} {o x : Obj} (h : w.heap[k]? = some x) : (w.alloc o).heap[k]? = some x := by
  rw [Below.heap_alloc _ _ _ (lt_of_heap h)]; exact h
theorem heap_new (w : World) (o : Obj) : (w.alloc o).heap[w.heap.size]? = some o := heap_alloc_new w o
theorem ne_of_type {w : World} {a b : Nat} {C D : Array Value} {t u : TypeId} {f g : Nat × Nat} (h : w.heap[a]? = some (.cells C t f)) (k : w.heap[b]? = some (.cells D u g)) (hne : t ≠ u) : a ≠ b := by
  intro e
  subst e
  rw [h] at k
  injection k with k
  injection k with _ k _
  exact hne k
theorem ne_of_lt {w : World} {a : Nat} {o : Obj} (h : w.heap[a]? = some o) : a ≠ w.heap.size := Nat.ne_of_lt (lt_of_heap h)

end Go.Proofs.Ytmdbnjepajifpaa

/- add of a sparse list with room puts the child at its end. -/
namespace Go.Proofs.Ytmdbnjepajifpaa
open Go.RowKit

theorem infoPtr : (Try.prog.info? 50).map (fun i => (i.zero, i.size, i.bytes)) = some (some (.pointer none), 1, 8) := by kernel_rfl

/-- What add leaves: a list with the child besides; only the list's two blocks may have been written. -/
def AddP (w : World) (fb : Nat → UInt8) (cl : CL) (c : Nat) (e : Ending) (w' : World) : Prop :=
  ∃ cl', e = .returned cl'.val ∧ CLraw w' cl' ∧ cl'.kids.Perm (c :: cl.kids) ∧ cl'.placed fb ∧ (cl'.l = cl.l ∨ w.heap.size ≤ cl'.l) ∧ (cl'.a = cl.a ∨ w.heap.size ≤ cl'.a) ∧
    cl'.l < w'.heap.size ∧ cl'.a < w'.heap.size ∧ Tch w w' (fun k => k = cl.l ∨ k = cl.a)

theorem sp_add_post {w : World} {fb : Nat → UInt8} {l a cap c n : Nat} {ks : List Nat} (hraw : CLraw w (.sp l a cap ks)) (hroom : ks.length < cap) {W : World}
    (hW : ((w.drewN n).alloc (.cells #[ptr c] 50)).setCell ⟨a, ks.length, none⟩ (ptr c) = W) :
    AddP w fb (.sp l a cap ks) c (.returned (CL.sp l a cap (ks ++ [c])).val) (W.setCell ⟨l, 0, none⟩ (.slice (some ⟨a, 0, none⟩) (ks.length + 1) cap)) := by
  obtain ⟨hl, hcap, hc2, C, ha, hC, hk⟩ := hraw
  have hla : l ≠ a := ne_of_type hl ha (by decide)
  have hT : Tch w (W.setCell ⟨l, 0, none⟩ (.slice (some ⟨a, 0, none⟩) (ks.length + 1) cap)) (fun k => k = l ∨ k = a) := by
    rw [← hW]
    exact (((Tch.dr n).alloc _).setCell _ _ (fun _ => .inr rfl)).setCell _ _ (fun _ => .inl rfl)
  have ha' : (W.setCell ⟨l, 0, none⟩ (.slice (some ⟨a, 0, none⟩) (ks.length + 1) cap)).heap[a]? = some (.cells (C.setIfInBounds ks.length (ptr c)) 50 (0, 0)) := by
    rw [heap_set_ne (fun h => hla h.symm), ← hW]
    exact heap_set (heap_al (w := w.drewN n) ha) _
  have hl' : (W.setCell ⟨l, 0, none⟩ (.slice (some ⟨a, 0, none⟩) (ks.length + 1) cap)).heap[l]? = some (.cells #[.slice (some ⟨a, 0, none⟩) (ks.length + 1) cap] 105 (0, 0)) := by
    have h1 : W.heap[l]? = some (.cells #[.slice (some ⟨a, 0, none⟩) ks.length cap] 105 (0, 0)) := by
      rw [← hW, heap_set_ne hla]; exact heap_al (w := w.drewN n) hl
    rw [heap_set h1]; rfl
  refine ⟨.sp l a cap (ks ++ [c]), rfl, ⟨by rw [List.length_append]; exact hl', by rw [List.length_append]; simp; omega, hc2, _, ha', by simp [hC], ?_⟩, ?_, trivial, .inl rfl, .inl rfl, lt_of_heap hl', lt_of_heap ha', hT⟩
  · intro i x hx
    by_cases hi : i < ks.length
    · rw [List.getElem?_append_left hi] at hx
      rw [Array.getElem?_setIfInBounds_ne (by omega)]
      exact hk i x hx
    · rw [List.getElem?_append_right (by omega)] at hx
      have : i = ks.length := by
        rcases Nat.lt_or_ge (i - ks.length) 1 with h | h
        · omega
        · rw [List.getElem?_eq_none (by simpa using h)] at hx; cases hx
      subst this
      simp at hx
      subst hx
      rw [Array.getElem?_setIfInBounds_self]
      rw [if_pos (by omega)]
  · exact List.perm_append_comm

set_option maxHeartbeats 1600000 in
theorem sp_add_room (w : World) (fb : Nat → UInt8) (l a cap : Nat) (ks : List Nat) (c : Nat) (hraw : CLraw w (.sp l a cap ks)) (hroom : ks.length < cap) :
    Calls Try.prog 112 #[ptr l, ptr c] w (AddP w fb (.sp l a cap ks) c) := by
  obtain ⟨hl, hcap, hc2, C, ha, hC, hk⟩ := hraw
  obtain ⟨i0, hi, hz0, hz1, hz2⟩ := info_parts infoPtr
  have c0 : w.cell? ⟨l, 0, none⟩ = some (.slice (some ⟨a, 0, none⟩) ks.length cap) := by rw [cell_of_block hl]; rfl
  have f0 := free_of_block hl 0
  have g1 : ((ks.length : Int) != (cap : Int)) = true := by rw [bne_iff_ne]; omega
  have hla : l ≠ a := ne_of_type hl ha (by decide)
  have HL := Lib.hid hl
  have HA := Lib.hid ha
  have HKs := Lib.hid hk
  have HC := Lib.hid hC
  have HR : Hid (CLraw w (.sp l a cap ks)) := (⟨hl, hcap, hc2, C, ha, hC, hk⟩ : CLraw w (.sp l a cap ks))
  clear hl ha hk hC
  go_enter Try.func112, Try.ntmps112
  go_wp2_with fail
  go_quiet (fail)
  go_wp2_with (at_builtin; refine wpList_append_arg _ rfl _ _ 103 rfl 50 i0 (.pointer none) 1 8 Try.underlying103 hi hz0 hz1 hz2 rfl (by decide) a 0 ks.length cap (ks.map ptr) rfl (by simp) ?c1 ⟨w.heap.size, 0, none⟩ 1 1 [ptr c] rfl rfl ?c2 ?c3 ?c4 ?c5 ?c6 ?c7 ?c8)
  case c1 =>
    intro j u hj
    simp only [List.getElem?_map, Option.map_eq_some_iff] at hj
    obtain ⟨x, hx, rfl⟩ := hj
    rw [cell_of_block (heap_al (w := w.drewN nq) HA.out), Nat.zero_add]
    exact HKs.out j x hx
  case c2 =>
    intro j u hj
    match j, hj with
    | 0, hj => simp at hj; subst hj; rw [Addr.add]; exact cell_of_block (heap_new (w.drewN nq) _) 0
  case c3 => intro u hu; simp at hu; subst hu; rfl
  case c4 =>
    intro _ j hj
    simp at hj
    subst hj
    have hC2 := HC.out
    constructor
    · rw [cell_of_block (heap_al (w := w.drewN nq) HA.out), Array.getElem?_eq_getElem (by omega)]; rfl
    · exact free_of_block (heap_al (w := w.drewN nq) HA.out) _
  case c5 => unfold maxLen; omega
  case c6 => omega
  case c8 => intro h; omega
  case c7 =>
    intro _
    simp only [World.setCells]
    have f1 : (((w.drewN nq).alloc (.cells #[ptr c] 50)).setCell ⟨a, ks.length, none⟩ (ptr c)).frozen? ⟨l, 0, none⟩ = false := by
      rw [World.frozen?_setCell]; exact free_of_block (heap_al (w := w.drewN nq) HL.out) 0
    have f2 : (((w.drewN nq).alloc (.cells #[ptr c] 50)).setCell ⟨a, ks.length, none⟩ (ptr c)).cell? ⟨l, 0, none⟩ = some (.slice (some ⟨a, 0, none⟩) ks.length cap) := by
      rw [World.cell?_setCell_other _ _ _ _ (by intro h; injection h with h; exact hla h.symm)]; rw [cell_of_block (heap_al (w := w.drewN nq) HL.out)]; rfl
    generalize hW : ((w.drewN nq).alloc (.cells #[ptr c] 50)).setCell ⟨a, ks.length, none⟩ (ptr c) = W at f1 f2 ⊢
    have HW := Lib.hid hW
    clear hW c0 f0
    go_wp2_with fail
    go_ret
    exact sp_add_post HR.out hroom HW.out

end Go.Proofs.Ytmdbnjepajifpaa

/- newDenseChildList makes a dense list of a full sparse list's children and one more; add of a sparse list, in both cases. -/
namespace Go.Proofs.Ytmdbnjepajifpaa
open Go.RowKit

def mnS (m b : Nat) : Nat := if b < m then b else m
def mxS (m b : Nat) : Nat := if m < b then b else m
def mnOf (fb : Nat → UInt8) (l : List Nat) : Nat := l.foldl (fun m x => mnS m (fb x).toNat) 255
def mxOf (fb : Nat → UInt8) (l : List Nat) : Nat := l.foldl (fun m x => mxS m (fb x).toNat) 0

/-- Pointers, or nil, as cells. -/
def arrV (A : List (Option Nat)) : Array Value := (A.map optr).toArray
def fillA (fb : Nat → UInt8) (mn n : Nat) (l : List Nat) : List (Option Nat) := l.foldl (fun A x => A.set ((fb x).toNat - mn) (some x)) (List.replicate n none)

theorem mnS_le (m b : Nat) : mnS m b ≤ m ∧ mnS m b ≤ b := by unfold mnS; split <;> omega
theorem mxS_le (m b : Nat) : m ≤ mxS m b ∧ b ≤ mxS m b := by unfold mxS; split <;> omega

theorem take_snoc' {α : Type} {l : List α} {k : Nat} {c : α} (h : l[k]? = some c) : l.take (k + 1) = l.take k ++ [c] := by
  obtain ⟨hk, rfl⟩ := List.getElem?_eq_some_iff.1 h
  exact List.take_succ_eq_append_getElem hk

theorem mnOf_snoc (fb : Nat → UInt8) (l : List Nat) (c : Nat) : mnOf fb (l ++ [c]) = mnS (mnOf fb l) (fb c).toNat := by simp [mnOf]
theorem mxOf_snoc (fb : Nat → UInt8) (l : List Nat) (c : Nat) : mxOf fb (l ++ [c]) = mxS (mxOf fb l) (fb c).toNat := by simp [mxOf]
theorem fillA_snoc (fb : Nat → UInt8) (mn n : Nat) (l : List Nat) (c : Nat) : fillA fb mn n (l ++ [c]) = (fillA fb mn n l).set ((fb c).toNat - mn) (some c) := by simp [fillA]

theorem mnOf_le (fb : Nat → UInt8) : ∀ (l : List Nat) (m : Nat), l.foldl (fun m x => mnS m (fb x).toNat) m ≤ m ∧ ∀ x, x ∈ l → l.foldl (fun m x => mnS m (fb x).toNat) m ≤ (fb x).toNat
  | [], m => ⟨Nat.le_refl _, fun x hx => by cases hx⟩
  | a :: l, m => by
    obtain ⟨h1, h2⟩ := mnOf_le fb l (mnS m (fb a).toNat)
    have h3 := mnS_le m (fb a).toNat
    refine ⟨Nat.le_trans h1 h3.1, fun x hx => ?_⟩
    rcases List.mem_cons.1 hx with rfl | hx
    · exact Nat.le_trans h1 h3.2
    · exact h2 x hx
theorem mxOf_ge (fb : Nat → UInt8) : ∀ (l : List Nat) (m : Nat), m ≤ l.foldl (fun m x => mxS m (fb x).toNat) m ∧ (m ≤ 255 → l.foldl (fun m x => mxS m (fb x).toNat) m ≤ 255) ∧ ∀ x, x ∈ l → (fb x).toNat ≤ l.foldl (fun m x => mxS m (fb x).toNat) m
  | [], m => ⟨Nat.le_refl _, fun h => h, fun x hx => by cases hx⟩
  | a :: l, m => by
    obtain ⟨h1, h4, h2⟩ := mxOf_ge fb l (mxS m (fb a).toNat)
    have h3 := mxS_le m (fb a).toNat
    have h5 : (fb a).toNat < 256 := (fb a).toNat_lt
    refine ⟨Nat.le_trans h3.1 h1, fun h => h4 (by unfold mxS; split <;> omega), fun x hx => ?_⟩
    rcases List.mem_cons.1 hx with rfl | hx
    · exact Nat.le_trans h3.2 h1
    · exact h2 x hx

theorem filter_set {A : List (Option Nat)} {i x : Nat} (h : A[i]? = some none) : ((A.set i (some x)).filterMap id).Perm (x :: A.filterMap id) := by
  induction A generalizing i with
  | nil => simp at h
  | cons a A ih =>
    cases i with
    | zero =>
      simp at h; subst h
      simp
    | succ i =>
      simp at h
      have := ih h
      cases a with
      | none => simpa using this
      | some y =>
        simp only [List.set_cons_succ, List.filterMap_cons, id]
        exact (this.cons y).trans (List.Perm.swap x y _)

theorem snoc_ind {α : Type} {P : List α → Prop} (h0 : P []) (h1 : ∀ l a, P l → P (l ++ [a])) (l : List α) : P l := by
  have : ∀ r : List α, P r.reverse := fun r => by
    induction r with
    | nil => exact h0
    | cons a r ih => rw [List.reverse_cons]; exact h1 _ a ih
  have h := this l.reverse
  rwa [List.reverse_reverse] at h

theorem fillA_len (fb : Nat → UInt8) (mn n : Nat) (l : List Nat) : (fillA fb mn n l).length = n := by
  refine snoc_ind (P := fun l => (fillA fb mn n l).length = n) ?_ ?_ l
  · simp [fillA]
  · intro l c ih; rw [fillA_snoc, List.length_set]; exact ih

/-- What the filled places are. -/
theorem fillA_spec (fb : Nat → UInt8) (mn n : Nat) : ∀ (l : List Nat), (∀ x, x ∈ l → mn ≤ (fb x).toNat ∧ (fb x).toNat < mn + n) → (∀ x y, x ∈ l → y ∈ l → fb x = fb y → x = y) → l.Nodup →
    (fillA fb mn n l).length = n ∧ ((fillA fb mn n l).filterMap id).Perm l ∧ (∀ (i c : Nat), (fillA fb mn n l)[i]? = some (some c) → c ∈ l ∧ (fb c).toNat = mn + i) := by
  intro l
  refine snoc_ind (P := fun l => (∀ x, x ∈ l → mn ≤ (fb x).toNat ∧ (fb x).toNat < mn + n) → (∀ x y, x ∈ l → y ∈ l → fb x = fb y → x = y) → l.Nodup →
    (fillA fb mn n l).length = n ∧ ((fillA fb mn n l).filterMap id).Perm l ∧ (∀ (i c : Nat), (fillA fb mn n l)[i]? = some (some c) → c ∈ l ∧ (fb c).toNat = mn + i)) ?_ ?_ l
  · intro _ _ _
    refine ⟨by simp [fillA], ?_, fun i c h => ?_⟩
    · simp [fillA]
    · simp [fillA, List.getElem?_replicate] at h
  · intro l c ih h1 h2 h3
    have h3' := List.nodup_append.1 h3
    obtain ⟨e1, e2, e3⟩ := ih (fun x hx => h1 x (by simp [hx])) (fun x y hx hy => h2 x y (by simp [hx]) (by simp [hy])) h3'.1
    have hc := h1 c (by simp)
    rw [fillA_snoc]
    have hfree : (fillA fb mn n l)[(fb c).toNat - mn]? = some none := by
      have hlt : (fb c).toNat - mn < (fillA fb mn n l).length := by omega
      cases hx : (fillA fb mn n l)[(fb c).toNat - mn]? with
      | none => rw [List.getElem?_eq_none_iff] at hx; omega
      | some y =>
        cases y with
        | none => rfl
        | some d =>
          exfalso
          obtain ⟨hd, hdb⟩ := e3 _ d hx
          have : d = c := h2 d c (by simp [hd]) (by simp) (UInt8.toNat_inj.1 (by omega))
          exact h3'.2.2 d hd c (by simp) this
    refine ⟨by simpa using e1, ?_, fun i d h => ?_⟩
    · exact (filter_set hfree).trans ((e2.cons c).trans (by simpa using (List.perm_append_comm (l₁ := [c]) (l₂ := l))))
    · rw [List.getElem?_set] at h
      split at h
      · rename_i hi
        split at h
        · simp at h; subst h
          exact ⟨by simp, by omega⟩
        · cases h
      · obtain ⟨hd, hdb⟩ := e3 i d h
        exact ⟨by simp [hd], hdb⟩

theorem arrV_nil (n : Nat) : madeCells (Value.pointer none).cells (n * 1) = arrV (List.replicate n none) := by
  apply Array.ext
  · simp [size_madeCells, arrV]
  · intro i h1 h2
    have : i % 1 = 0 := Nat.mod_one i
    simp [madeCells, arrV, Value.cells, this]

theorem arrV_set (A : List (Option Nat)) (i x : Nat) : (arrV A).setIfInBounds i (.pointer (some ⟨x, 0, none⟩)) = arrV (A.set i (some x)) := by
  simp [arrV, List.map_set]

theorem arrV_get (A : List (Option Nat)) (i : Nat) : (arrV A)[i]? = (A[i]?).map optr := by simp [arrV]

theorem mk_ptrs (n : Nat) (E : Int) (hE : E = n) (h : n ≤ 100000) (W : World) :
    (Instr.makeSlice 83 (.int .i64 E) (.int .i64 E)).run Try.prog W = .ok (.slice (some ⟨W.heap.size, 0, none⟩) n n) (W.alloc (.cells (arrV (List.replicate n none)) 50)) := by
  obtain ⟨i0, hi, hz0, hz1, hz2⟩ := info_parts infoPtr
  subst hE
  rw [run_make (P := Try.prog) W 83 50 i0 (.pointer none) Try.underlying83 hi hz0 .i64 .i64 n n (by omega) (Int.le_refl _) (by rw [hz2]; omega) (by omega)]
  simp only [Int.toNat_natCast, hz1, arrV_nil]

/-- What newDenseChildList leaves. -/
def NewDenseP (w : World) (fb : Nat → UInt8) (ks : List Nat) (c : Nat) (e : Ending) (w' : World) : Prop :=
  ∃ l a mn arr, e = .returned (CL.dn l a mn 0 arr).val ∧ CLraw w' (.dn l a mn 0 arr) ∧ (CL.dn l a mn 0 arr).kids.Perm (c :: ks) ∧ (CL.dn l a mn 0 arr).placed fb ∧
    w.heap.size ≤ l ∧ w.heap.size ≤ a ∧ l < w'.heap.size ∧ a < w'.heap.size ∧ Tch w w' (fun _ => False)

theorem newDense_post {w : World} {fb : Nat → UInt8} {ks : List Nat} {c mn mx n n1 : Nat} {A : List (Option Nat)}
    (hA : A = fillA fb mn n (ks ++ [c])) (h1 : mx + 1 ≤ mn + n) (h2 : mn + n ≤ mx + 1) (hlo : ∀ x, x ∈ ks ++ [c] → mn ≤ (fb x).toNat) (hhi : ∀ x, x ∈ ks ++ [c] → (fb x).toNat ≤ mx) (hmx : mx ≤ 255) (hpos : 0 < n)
    (hne : ∀ x y, x ∈ c :: ks → y ∈ c :: ks → fb x = fb y → x = y) (hnd : (c :: ks).Nodup) :
    NewDenseP w fb ks c (.returned (.iface 145 (.pointer (some ⟨w.heap.size + 1, 0, none⟩))))
      (((w.alloc (.cells (arrV A) 50)).drewN n1).alloc (.cells #[.int .i64 mn, .int .i64 mx, .int .i64 ((ks.length : Int) + 1), .int .i64 0, .slice (some ⟨w.heap.size, 0, none⟩) n n] 147)) := by
  have hp : (ks ++ [c]).Perm (c :: ks) := List.perm_append_comm
  have hm : ∀ x, x ∈ ks ++ [c] ↔ x ∈ c :: ks := fun x => hp.mem_iff
  obtain ⟨e1, e2, e3⟩ := fillA_spec fb mn n (ks ++ [c]) (fun x hx => ⟨hlo x hx, by have := hhi x hx; omega⟩) (fun x y hx hy => hne x y ((hm x).1 hx) ((hm y).1 hy)) (hp.nodup_iff.2 hnd)
  rw [← hA] at e1 e2 e3
  have hT : Tch w (((w.alloc (.cells (arrV A) 50)).drewN n1).alloc (.cells #[.int .i64 mn, .int .i64 mx, .int .i64 ((ks.length : Int) + 1), .int .i64 0, .slice (some ⟨w.heap.size, 0, none⟩) n n] 147)) (fun _ => False) :=
    (((Tch.refl w _).alloc _).drn n1).alloc _
  have hlen : (A.filterMap id).length = ks.length + 1 := by rw [e2.length_eq]; simp
  have ha : (((w.alloc (.cells (arrV A) 50)).drewN n1).alloc (.cells #[.int .i64 mn, .int .i64 mx, .int .i64 ((ks.length : Int) + 1), .int .i64 0, .slice (some ⟨w.heap.size, 0, none⟩) n n] 147)).heap[w.heap.size]? = some (.cells (arrV A) 50 (0, 0)) :=
    heap_al (w := (w.alloc (.cells (arrV A) 50)).drewN n1) (heap_new w _)
  have hl : (((w.alloc (.cells (arrV A) 50)).drewN n1).alloc (.cells #[.int .i64 mn, .int .i64 mx, .int .i64 ((ks.length : Int) + 1), .int .i64 0, .slice (some ⟨w.heap.size, 0, none⟩) n n] 147)).heap[w.heap.size + 1]? = some (.cells #[.int .i64 mn, .int .i64 mx, .int .i64 ((ks.length : Int) + 1), .int .i64 0, .slice (some ⟨w.heap.size, 0, none⟩) n n] 147 (0, 0)) := by
    have := heap_new ((w.alloc (.cells (arrV A) 50)).drewN n1) (.cells #[.int .i64 mn, .int .i64 mx, .int .i64 ((ks.length : Int) + 1), .int .i64 0, .slice (some ⟨w.heap.size, 0, none⟩) n n] 147)
    rw [World.heap_drewN, World.size_alloc] at this
    exact this
  refine ⟨w.heap.size + 1, w.heap.size, mn, A, rfl, ⟨?_, by omega, by omega, fun j hj => by omega, ha⟩, e2.trans hp, fun i d h => (e3 i d h).2, by omega, Nat.le_refl _, lt_of_heap hl, lt_of_heap ha, hT⟩
  rw [hl, hlen, e1]
  have x1 : ((mn : Int) + (n : Int) - 1) = (mx : Int) := by omega
  rw [x1]
  rfl

set_option maxHeartbeats 6400000 in
set_option maxRecDepth 100000 in
theorem newDense_any (w : World) (fb : Nat → UInt8) (l a cap : Nat) (ks : List Nat) (c : Nat) (hraw : CLraw w (.sp l a cap ks)) (hkb : ∀ x, x ∈ ks → FB w x (fb x)) (hcb : FB w c (fb c))
    (hne : ∀ x y, x ∈ c :: ks → y ∈ c :: ks → fb x = fb y → x = y) (hnd : (c :: ks).Nodup) :
    Calls Try.prog 121 #[ptr l, ptr c] w (NewDenseP w fb ks c) := by
  have hlen := sp_len w l a cap ks hraw
  obtain ⟨hl, hcap, hc2, C, ha, hC, hk⟩ := hraw
  have c0 : w.cell? ⟨l, 0, none⟩ = some (.slice (some ⟨a, 0, none⟩) ks.length cap) := by rw [cell_of_block hl]; rfl
  have hcells : ∀ (i c : Nat), ks[i]? = some c → w.cell? ⟨a, i, none⟩ = some (ptr c) := fun i c h => by rw [cell_of_block ha]; exact hk i c h
  obtain ⟨sb, so, n, cp, d2, hn, d3⟩ := hcb
  have HC := Lib.hid hcells
  have HK := Lib.hid hkb
  have HNE := Lib.hid hne
  have HND := Lib.hid hnd
  have HLEN := Lib.hid hlen
  have hcl : ks.length ≤ 1000 := by omega
  clear hl ha hC hk hcells hkb hne hnd hlen
  go_enter Try.func121, Try.ntmps121
  go_wp2_with fail
  go_loop [5, 6, 19] (fun m x i => ∃ k : Nat, k ≤ ks.length ∧ i = .int .i64 k ∧ m = .int .i64 (mnOf fb (ks.take k) : Nat) ∧ x = .int .i64 (mxOf fb (ks.take k) : Nat)) (fun _ _ i => ks.length - (intOf i).toNat)
  case atStart => exact ⟨0, Nat.zero_le _, rfl, rfl, rfl⟩
  case round =>
    obtain ⟨k, hkk, rfl, rfl, rfl⟩ := hrel
    obtain ⟨mn, hmn⟩ : ∃ m, mnOf fb (ks.take k) = m := ⟨_, rfl⟩
    obtain ⟨mx, hmx⟩ : ∃ m, mxOf fb (ks.take k) = m := ⟨_, rfl⟩
    have hmn255 : mn ≤ 255 := by rw [← hmn]; exact (mnOf_le fb _ 255).1
    have hmx255 : mx ≤ 255 := by rw [← hmx]; exact (mxOf_ge fb _ 0).2.1 (by omega)
    rw [hmn, hmx]
    have HMN := Lib.hid hmn
    have HMX := Lib.hid hmx
    clear hmn hmx
    by_cases h1 : k < ks.length
    · obtain ⟨x, hx⟩ : ∃ c, ks[k]? = some c := ⟨ks[k], by simp [h1]⟩
      have c1 := HC.out k x hx
      obtain ⟨sb1, so1, n1, cp1, c2, hn1, c3⟩ := HK.out x (List.mem_of_getElem? hx)
      have g1 : (k : Int) < (ks.length : Int) := by omega
      have hb256 : (fb x).toNat < 256 := (fb x).toNat_lt
      have HX := Lib.hid hx
      clear hx d2 d3 hn
      go_wp2_with fail
      all_goals
        go_round
        case rel => exact ⟨k + 1, by omega, by go_num, by rw [take_snoc' HX.out, mnOf_snoc, HMN.out]; unfold mnS; split <;> first | rfl | (exfalso; omega), by rw [take_snoc' HX.out, mxOf_snoc, HMX.out]; unfold mxS; split <;> first | rfl | (exfalso; omega)⟩
        case measure => simp [intOf]; omega
    · have hb256 : (fb c).toNat < 256 := (fb c).toNat_lt
      go_upto_if 48 with (fail)
      go_cut [5] from 14 to 101 (fun m wx => m = .int .i64 (mnS mn (fb c).toNat : Nat) ∧ wx = w)
      case first =>
        go_wp2_with fail
        all_goals
          go_meet
          exact ⟨by unfold mnS; split <;> first | rfl | (exfalso; omega), rfl⟩
      case rest =>
        obtain ⟨rfl, rfl⟩ := hcut
        go_upto_if 52 with (fail)
        go_cut [6] from 14 to 101 (fun m wx => m = .int .i64 (mxS mx (fb c).toNat : Nat) ∧ wx = wc)
        case first =>
          go_wp2_with fail
          all_goals
            go_meet
            exact ⟨by unfold mxS; split <;> first | rfl | (exfalso; omega), rfl⟩
        case rest =>
          obtain ⟨rfl, rfl⟩ := hcut
          have hks : ks.take k = ks := List.take_of_length_le (by omega)
          have hA := mnS_le mn (fb c).toNat
          have hB := mxS_le mx (fb c).toNat
          have hlo : ∀ x, x ∈ ks → mnS mn (fb c).toNat ≤ (fb x).toNat := fun x hx => by
            have := (mnOf_le fb ks 255).2 x hx
            have h2 := HMN.out
            rw [hks] at h2
            unfold mnOf at h2
            omega
          have hhi : ∀ x, x ∈ ks → (fb x).toNat ≤ mxS mx (fb c).toNat := fun x hx => by
            have := (mxOf_ge fb ks 0).2.2 x hx
            have h2 := HMX.out
            rw [hks] at h2
            unfold mxOf at h2
            omega
          have hmx2 : mxS mx (fb c).toNat ≤ 255 := by unfold mxS; split <;> omega
          clear HMN HMX hks
          generalize mnS mn (fb c).toNat = mnA at *
          generalize mxS mx (fb c).toNat = mxA at *
          obtain ⟨N, hN⟩ : ∃ N, mxA + 1 - mnA = N := ⟨_, rfl⟩
          have hmk := mk_ptrs N ((mxA : Int) - (mnA : Int) + 1) (by omega) (by omega)
          have HNN := Lib.hid hN
          have hN1 : mxA + 1 ≤ mnA + N := by omega
          have hN2 : mnA + N ≤ mxA + 1 := by omega
          have HLO := Lib.hid hlo
          have HHI := Lib.hid hhi
          clear hN hlo hhi
          have hlw : l < wc.heap.size := World.block_lt_of_cell? wc ⟨l, 0, none⟩ c0
          go_wp2_with fail
          go_loopw [64] (fun i wr => ∃ k : Nat, k ≤ ks.length ∧ i = .int .i64 k ∧ wr = wc.alloc (.cells (arrV (fillA fb mnA N (ks.take k))) 50)) (fun i _ => ks.length - (intOf i).toNat)
          case atStart => exact ⟨0, Nat.zero_le _, rfl, rfl⟩
          case round =>
            obtain ⟨j, hjk, rfl, rfl⟩ := hrel
            obtain ⟨F, hF⟩ : ∃ F, fillA fb mnA N (ks.take j) = F := ⟨_, rfl⟩
            have hFl : F.length = N := by rw [← hF]; exact fillA_len fb mnA N _
            rw [hF]
            have HF := Lib.hid hF
            have c0' : (wc.alloc (.cells (arrV F) 50)).cell? ⟨l, 0, none⟩ = some (.slice (some ⟨a, 0, none⟩) ks.length cap) := by rw [World.cell?_alloc_lt _ _ _ hlw]; exact c0
            have old : ∀ {p : Addr} {v : Value}, wc.cell? p = some v → (wc.alloc (.cells (arrV F) 50)).cell? p = some v := fun {p v} h => by
              rw [World.cell?_alloc_lt _ _ _ (World.block_lt_of_cell? wc p h)]; exact h
            have hat : ∀ i, i < N → ∃ v, (wc.alloc (.cells (arrV F) 50)).cell? ⟨wc.heap.size, i, none⟩ = some v := fun i hi => by
              rw [World.cell?_alloc_new, arrV_get, List.getElem?_eq_getElem (by omega)]; exact ⟨_, rfl⟩
            have hfr : ∀ i, (wc.alloc (.cells (arrV F) 50)).frozen? ⟨wc.heap.size, i, none⟩ = false := fun i => World.frozen?_alloc_new _ _ _ _
            have hst : ∀ i x, (wc.alloc (.cells (arrV F) 50)).setCell ⟨wc.heap.size, i, none⟩ (.pointer (some ⟨x, 0, none⟩)) = wc.alloc (.cells (arrV (F.set i (some x))) 50) := fun i x => by
              rw [World.setCell_alloc_at _ _ _ _ _ rfl, arrV_set]
            generalize hW : wc.alloc (.cells (arrV F) 50) = W at *
            have HW := Lib.hid hW
            have HST := Lib.hid hst
            clear hF hW hst c0
            by_cases h2 : j < ks.length
            · obtain ⟨x, hx⟩ : ∃ c, ks[j]? = some c := ⟨ks[j], by simp [h2]⟩
              have c1 := old (HC.out j x hx)
              obtain ⟨sb1, so1, n1, cp1, e2, hn1, e3⟩ := HK.out x (List.mem_of_getElem? hx)
              have c2 := old e2
              have c3 := old e3
              have hxm := List.mem_of_getElem? hx
              have x1 := HLO.out x hxm
              have x2 := HHI.out x hxm
              have hb256 : (fb x).toNat < 256 := (fb x).toNat_lt
              obtain ⟨v, c4⟩ := hat ((fb x).toNat - mnA) (by omega)
              have f4 := hfr ((fb x).toNat - mnA)
              have HX := Lib.hid hx
              have g1 : (j : Int) < (ks.length : Int) := by omega
              have i1 : (0 : Int) ≤ ((fb x).toNat : Int) - (mnA : Int) := by omega
              have i2 : ((fb x).toNat : Int) - (mnA : Int) < (N : Int) := by omega
              have i3 : (((fb x).toNat : Int) - (mnA : Int)).toNat = (fb x).toNat - mnA := by omega
              clear hx e2 e3 d2 d3 old hat hfr hxm
              go_wp2_with fail
              go_roundw
              case rel => exact ⟨j + 1, by omega, by go_num, by rw [take_snoc' HX.out, fillA_snoc, HF.out]; exact HST.out _ _⟩
              case measure => simp [intOf]; omega
            · have c2 := old d2
              have c3 := old d3
              obtain ⟨v, c4⟩ := hat ((fb c).toNat - mnA) (by omega)
              have f4 := hfr ((fb c).toNat - mnA)
              have i1 : (0 : Int) ≤ ((fb c).toNat : Int) - (mnA : Int) := by omega
              have i2 : ((fb c).toNat : Int) - (mnA : Int) < (N : Int) := by omega
              have i3 : (((fb c).toNat : Int) - (mnA : Int)).toNat = (fb c).toNat - mnA := by omega
              have c5 : (W.setCell ⟨wc.heap.size, (fb c).toNat - mnA, none⟩ (.pointer (some ⟨c, 0, none⟩))).cell? ⟨l, 0, none⟩ = some (.slice (some ⟨a, 0, none⟩) ks.length cap) := by
                rw [World.cell?_setCell_other _ _ _ _ (by intro h; injection h with h; omega)]; exact c0'
              have c6 := sp_len0 _ l ks.length _ cap c5
              have C6 := Lib.hid c6
              clear d2 d3 old hat hfr c5 c6 HLEN
              go_wp2_with fail
              refine C6.out.mono ?_
              rintro e w' ⟨rfl, n1, rfl⟩
              have hw1 := HST.out ((fb c).toNat - mnA) c
              rw [hw1]
              have HWX := Lib.hid hw1
              clear hw1 C6
              go_wp2_with fail
              go_ret
              have hkj : ks.take j = ks := List.take_of_length_le (by omega)
              refine newDense_post (mx := mxA) (by rw [← HF.out, hkj, fillA_snoc]) hN1 hN2 ?_ ?_ (by omega) (by omega) HNE.out HND.out
              · intro x hx
                rcases List.mem_append.1 hx with hx | hx
                · exact HLO.out x hx
                · simp at hx; subst hx; exact hA.2
              · intro x hx
                rcases List.mem_append.1 hx with hx | hx
                · exact HHI.out x hx
                · simp at hx; subst hx; exact hB.2

/-- add of a sparse list. -/
theorem sp_add_full (w : World) (fb : Nat → UInt8) (l a cap : Nat) (ks : List Nat) (c : Nat) (hraw : CLraw w (.sp l a cap ks)) (hfull : ks.length = cap) (hkb : ∀ x, x ∈ ks → FB w x (fb x)) (hcb : FB w c (fb c))
    (hne : ∀ x y, x ∈ c :: ks → y ∈ c :: ks → fb x = fb y → x = y) (hnd : (c :: ks).Nodup) :
    Calls Try.prog 112 #[ptr l, ptr c] w (AddP w fb (.sp l a cap ks) c) := by
  have hd := fun n => newDense_any (w.drewN n) fb l a cap ks c (hraw.dr n) hkb hcb hne hnd
  obtain ⟨hl, hcap, hc2, C, ha, hC, hk⟩ := hraw
  have c0 : w.cell? ⟨l, 0, none⟩ = some (.slice (some ⟨a, 0, none⟩) ks.length cap) := by rw [cell_of_block hl]; rfl
  have g1 : ((ks.length : Int) != (cap : Int)) = false := by rw [bne_eq_false_iff_eq]; omega
  have HD := Lib.hid hd
  have HF := Lib.hid hfull
  clear hl ha hk hC hd hkb hne hnd hcb hfull
  go_enter Try.func112, Try.ntmps112
  go_wp2_with fail
  go_quiet (fail)
  go_wp2_with fail
  refine (HD.out _).mono ?_
  rintro e w' ⟨l', a', mn, arr, rfl, h1, h2, h3, h4, h5, h6, h7, h8⟩
  have HH : Hid (AddP w fb (.sp l a cap ks) c (.returned (CL.dn l' a' mn 0 arr).val) w') :=
    (⟨_, rfl, h1, h2, h3, .inr h4, .inr h5, h6, h7, ((Tch.dr nq).trans h8 (fun _ _ h => h.elim))⟩ : AddP w fb (.sp l a cap ks) c (.returned (CL.dn l' a' mn 0 arr).val) w')
  clear h1 h2 h3 h4 h5 h6 h7 h8
  go_wp2_with fail
  go_ret
  exact HH.out

end Go.Proofs.Ytmdbnjepajifpaa

/- add of a dense list. -/
namespace Go.Proofs.Ytmdbnjepajifpaa
open Go.RowKit

theorem dn_free {fb : Nat → UInt8} {l a mn hi : Nat} {arr : List (Option Nat)} {c : Nat} (hp : (CL.dn l a mn hi arr).placed fb) (hn : ∀ x, x ∈ arr.filterMap id → fb x ≠ fb c) (h1 : mn ≤ (fb c).toNat) (h2 : (fb c).toNat < mn + arr.length) :
    arr[(fb c).toNat - mn]? = some none := by
  cases hx : arr[(fb c).toNat - mn]? with
  | none => rw [List.getElem?_eq_none_iff] at hx; omega
  | some y =>
    cases y with
    | none => rfl
    | some d =>
      exfalso
      have h3 := hp _ d hx
      apply hn d (by simp only [List.mem_filterMap, id]; exact ⟨some d, List.mem_of_getElem? hx, rfl⟩)
      exact UInt8.toNat_inj.1 (by omega)

/-- A dense list's struct. -/
def dnObj (mn mx nc hi : Int) (a n : Nat) : Obj := .cells #[.int .i64 mn, .int .i64 mx, .int .i64 nc, .int .i64 hi, .slice (some ⟨a, 0, none⟩) n n] 147 (0, 0)
theorem dn_set0 {w : World} {l : Nat} {mn mx nc hi : Int} {a n : Nat} (h : w.heap[l]? = some (dnObj mn mx nc hi a n)) (v : Int) : (w.setCell ⟨l, 0, none⟩ (.int .i64 v)).heap[l]? = some (dnObj v mx nc hi a n) := heap_set h _
theorem dn_set1 {w : World} {l : Nat} {mn mx nc hi : Int} {a n : Nat} (h : w.heap[l]? = some (dnObj mn mx nc hi a n)) (v : Int) : (w.setCell ⟨l, 1, none⟩ (.int .i64 v)).heap[l]? = some (dnObj mn v nc hi a n) := heap_set h _
theorem dn_set2 {w : World} {l : Nat} {mn mx nc hi : Int} {a n : Nat} (h : w.heap[l]? = some (dnObj mn mx nc hi a n)) (v : Int) : (w.setCell ⟨l, 2, none⟩ (.int .i64 v)).heap[l]? = some (dnObj mn mx v hi a n) := heap_set h _
theorem dn_set3 {w : World} {l : Nat} {mn mx nc hi : Int} {a n : Nat} (h : w.heap[l]? = some (dnObj mn mx nc hi a n)) (v : Int) : (w.setCell ⟨l, 3, none⟩ (.int .i64 v)).heap[l]? = some (dnObj mn mx nc v a n) := heap_set h _
theorem dn_set4 {w : World} {l : Nat} {mn mx nc hi : Int} {a n : Nat} (h : w.heap[l]? = some (dnObj mn mx nc hi a n)) (a' n' : Nat) : (w.setCell ⟨l, 4, none⟩ (.slice (some ⟨a', 0, none⟩) n' n')).heap[l]? = some (dnObj mn mx nc hi a' n') := heap_set h _

theorem dn_post {w w' : World} {fb : Nat → UInt8} {l a mn hi c : Nat} {arr : List (Option Nat)} (a' mn' hi' : Nat) (mx nc : Int) (arr' : List (Option Nat))
    (hT : Tch w w' (fun k => k = l ∨ k = a)) (hl : w'.heap[l]? = some (dnObj mn' mx nc hi' a' arr'.length)) (ha : w'.heap[a']? = some (.cells (arrV arr') 50 (0, 0)))
    (hmx : mx = (mn' : Int) + arr'.length - 1) (hnc : nc = (arr'.filterMap id).length) (h256 : mn' + arr'.length ≤ 256) (hhi : hi' < arr'.length) (hno : ∀ j, j < hi' → arr'[j]? = some none)
    (hperm : (arr'.filterMap id).Perm (c :: arr.filterMap id)) (hpl : ∀ (i d : Nat), arr'[i]? = some (some d) → (fb d).toNat = mn' + i) (haa : a' = a ∨ w.heap.size ≤ a') :
    AddP w fb (.dn l a mn hi arr) c (.returned (.iface 145 (.pointer (some ⟨l, 0, none⟩)))) w' := by
  subst hmx hnc
  exact ⟨.dn l a' mn' hi' arr', rfl, ⟨hl, h256, hhi, hno, ha⟩, hperm, hpl, .inl rfl, haa, lt_of_heap hl, lt_of_heap ha, hT⟩

theorem dn_mid {w W : World} {fb : Nat → UInt8} {l a mn hi c n : Nat} {arr : List (Option Nat)} (hraw : CLraw w (.dn l a mn hi arr)) (hp : (CL.dn l a mn hi arr).placed fb) (hfree : arr[(fb c).toNat - mn]? = some none)
    (h1 : mn ≤ (fb c).toNat) (hW : ((w.drewN n).setCell ⟨a, (fb c).toNat - mn, none⟩ (.pointer (some ⟨c, 0, none⟩))).setCell ⟨l, 2, none⟩ (.int .i64 (((arr.filterMap id).length : Int) + 1)) = W) :
    (¬ (fb c).toNat - mn < hi → AddP w fb (.dn l a mn hi arr) c (.returned (.iface 145 (.pointer (some ⟨l, 0, none⟩)))) W) ∧
    ((fb c).toNat - mn < hi → AddP w fb (.dn l a mn hi arr) c (.returned (.iface 145 (.pointer (some ⟨l, 0, none⟩)))) (W.setCell ⟨l, 3, none⟩ (.int .i64 (((fb c).toNat : Int) - (mn : Int))))) := by
  obtain ⟨hl, hcap, hhi, hnone, ha⟩ := hraw
  have hal : l ≠ a := fun h => ne_of_type hl ha (by decide) h
  have hlt : (fb c).toNat - mn < arr.length := (List.getElem?_eq_some_iff.1 hfree).1
  have hT : Tch w W (fun k => k = l ∨ k = a) := by
    rw [← hW]; exact ((Tch.dr n).setCell _ _ (fun _ => .inr rfl)).setCell _ _ (fun _ => .inl rfl)
  have haW : W.heap[a]? = some (.cells (arrV (arr.set ((fb c).toNat - mn) (some c))) 50 (0, 0)) := by
    rw [← hW, heap_set_ne (fun h => hal h.symm), ← arrV_set]
    exact heap_set (w := w.drewN n) ha _
  have hlW : W.heap[l]? = some (dnObj mn ((mn : Int) + arr.length - 1) (((arr.filterMap id).length : Int) + 1) hi a (arr.set ((fb c).toNat - mn) (some c)).length) := by
    have h0 : ((w.drewN n).setCell ⟨a, (fb c).toNat - mn, none⟩ (.pointer (some ⟨c, 0, none⟩))).heap[l]? = some (dnObj mn ((mn : Int) + arr.length - 1) ((arr.filterMap id).length : Int) hi a arr.length) := by
      rw [heap_set_ne hal]; exact hl
    rw [← hW, List.length_set]
    exact dn_set2 h0 _
  have hperm := filter_set hfree (x := c)
  have hpl : ∀ (i d : Nat), (arr.set ((fb c).toNat - mn) (some c))[i]? = some (some d) → (fb d).toNat = mn + i := by
    intro i d h
    by_cases e : (fb c).toNat - mn = i
    · subst e
      rw [List.getElem?_set_self hlt] at h
      simp at h
      subst h
      omega
    · rw [List.getElem?_set_ne e] at h
      exact hp i d h
  have hnc : (((arr.filterMap id).length : Int) + 1) = ((arr.set ((fb c).toNat - mn) (some c)).filterMap id).length := by rw [hperm.length_eq]; simp
  refine ⟨fun hge => ?_, fun hlt2 => ?_⟩
  · refine dn_post a mn hi _ _ _ hT hlW haW (by simp) hnc (by simpa using hcap) (by simpa using hhi) ?_ hperm hpl (.inl rfl)
    intro j hj
    rw [List.getElem?_set_ne (by omega)]
    exact hnone j hj
  · have hT2 : Tch w (W.setCell ⟨l, 3, none⟩ (.int .i64 (((fb c).toNat : Int) - (mn : Int)))) (fun k => k = l ∨ k = a) := hT.setCell _ _ (fun _ => .inl rfl)
    refine dn_post a mn ((fb c).toNat - mn) _ _ _ hT2 (by rw [show (((fb c).toNat - mn : Nat) : Int) = ((fb c).toNat : Int) - (mn : Int) by omega]; exact dn_set3 hlW _) (by rw [heap_set_ne (fun h => hal h.symm)]; exact haW) (by simp) hnc (by simpa using hcap) (by simpa using hlt) ?_ hperm hpl (.inl rfl)
    intro j hj
    rw [List.getElem?_set_ne (by omega)]
    exact hnone j (by omega)

/-- A copy of one array of pointers into another. -/
theorem copy_arr (W : World) (ty g o dl dc a n : Nat) (X A : List (Option Nat)) (hX : W.heap[g]? = some (.cells (arrV X) 50 (0, 0))) (hA : W.heap[a]? = some (.cells (arrV A) 50 (0, 0)))
    (hn : A.length = n) (hdl : n ≤ dl) (hfit : o + n ≤ X.length) :
    (Builtin.copy_ #[83, 83] ty #[.slice (some ⟨g, o, none⟩) dl dc, .slice (some ⟨a, 0, none⟩) n n]).run Try.prog W = .ok (goInt n) (W.setRow g (arrV (X.take o ++ A ++ X.drop (o + n)))) := by
  subst hn
  obtain ⟨i0, hi, hz0, hz1, hz2⟩ := info_parts infoPtr
  have h := run_copy_row (P := Try.prog) W 83 83 ty 50 g o dl dc ⟨a, 0, none⟩ A.length A.length (arrV X) 50 (A.map optr) Try.underlying83 (by rw [hi]; simp [hz1]) hX (by show _ = min _ _; rw [Nat.min_eq_left hdl]; simp)
    (fun j v hv => by rw [Addr.add_lit, Nat.zero_add, cell_of_block hA]; simpa [arrV] using hv) (by simp [arrV]; omega) (fun v hv => by simp at hv; obtain ⟨x, _, rfl⟩ := hv; cases x <;> rfl)
  rw [h]
  simp [arrV]

/-- The step of a walk at a call of a builtin whose run is known. -/
theorem wpList_builtin {P : Program} {w : World} {ops : Array Oper} {rest : List Oper} {o : Oper} {a : Act} {Q : Exit → Act → World → Prop} (hgd : o.guard = none) {b : Builtin} {xs : Array Operand} {ts : Array TypeId}
    (ho : o.op = .call { callee := .builtin b, args := xs, argTypes := ts }) (v : Value) (w' : World)
    (hrun : (builtin b ts o.type (xs.map fun | .const _ => true | _ => false) (xs.map a.eval)).run P w = .ok (.value v) w')
    (h : wpList P ops Q rest (a.put o.dst v) w') : wpList P ops Q (o :: rest) a w := by
  refine wpList_plain hgd fun K hK => ?_
  unfold Oper.wp
  have he : (execOp a.eval o).run P w = .ok (.value v) w' := by
    unfold execOp
    simp only [ho, resolve, invoke, Sem.run_bind, Sem.run_pure, Result.andThen_ok]
    exact hrun
  rw [he]
  exact hK _ _ h

theorem setRow_heap_same {w : World} {g : Nat} {C D : Array Value} {t : TypeId} {fr : Nat × Nat} (h : w.heap[g]? = some (.cells C t fr)) : (w.setRow g D).heap[g]? = some (.cells D t fr) := setRow_heap w g C D t fr h
theorem setRow_heap_ne {w : World} {g k : Nat} {D : Array Value} (h : k ≠ g) : (w.setRow g D).heap[k]? = w.heap[k]? := setRow_other w g k D h
theorem Tch.setRow {w w1 : World} {T : Nat → Prop} (h : Tch w w1 T) (g : Nat) (D : Array Value) (hp : g < w.heap.size → T g) : Tch w (w1.setRow g D) T :=
  h.trans (U := fun k => k = g) ⟨rfl, rfl, rfl, by simp [World.setRow], fun k _ hn => setRow_heap_ne hn⟩ (fun b hb e => by subst e; exact hp hb)

theorem slice_lo (b o n m k : Nat) (E : Int) (hE : E = k) (hk : k ≤ n) (hm : k ≠ m) (W : World) :
    (Instr.slice 83 (.slice (some ⟨b, o, none⟩) n m) (some (.int .i64 E)) none none).run Try.prog W = .ok (.slice (some ⟨b, o + k, none⟩) (n - k) (m - k)) W := by
  obtain ⟨i0, hi, hz0, hz1, hz2⟩ := info_parts infoPtr
  subst hE
  have he : Try.prog.elem 83 = 50 := by unfold Program.elem; rw [Try.underlying83]
  rw [run_slice_l (P := Try.prog) W 83 (some ⟨b, o, none⟩) n m (by rw [he]; exact Try.underlying83) .i64 (k : Int) (by omega) (by omega)]
  simp [he, sizeOf, typeInfo, hi, hz1, sliced, hm.symm, Addr.add]

/-- The step of a walk at such a copy. -/
theorem wpList_copy_arr {W : World} {ops : Array Oper} {rest : List Oper} {o : Oper} {x : Act} {Q : Exit → Act → World → Prop} (hgd : o.guard = none) {d s : Operand}
    (ho : o.op = .call { callee := .builtin .copy, args := #[d, s], argTypes := #[83, 83] }) (g p dl dc a n : Nat) (hd : x.eval d = .slice (some ⟨g, p, none⟩) dl dc) (hs : x.eval s = .slice (some ⟨a, 0, none⟩) n n) (X A : List (Option Nat))
    (hX : W.heap[g]? = some (.cells (arrV X) 50 (0, 0))) (hA : W.heap[a]? = some (.cells (arrV A) 50 (0, 0))) (hn : A.length = n) (hdl : n ≤ dl) (hfit : p + n ≤ X.length)
    (h : ∀ W', W'.heap[g]? = some (.cells (arrV (X.take p ++ (A ++ X.drop (p + n)))) 50 (0, 0)) → (∀ k, k ≠ g → W'.heap[k]? = W.heap[k]?) → Tch W W' (fun k => k = g) → wpList Try.prog ops Q rest (x.put o.dst (goInt n)) W') :
    wpList Try.prog ops Q (o :: rest) x W := by
  have hrun := copy_arr W o.type g p dl dc a n X A hX hA hn hdl hfit
  refine wpList_plain hgd fun K hK => ?_
  unfold Oper.wp
  simp [execOp, ho, resolve, invoke, builtin, hd, hs, hrun, Result.andThen]
  exact hK _ _ (h _ (setRow_heap_same hX) (fun k hk => setRow_heap_ne hk) ((Tch.refl W _).setRow g _ (fun _ => rfl)))

/-- What is known of the dense list's struct in a world. -/
theorem dn_cells {w : World} {l : Nat} {mn mx nc hi : Int} {a n : Nat} (h : w.heap[l]? = some (dnObj mn mx nc hi a n)) :
    w.cell? ⟨l, 0, none⟩ = some (.int .i64 mn) ∧ w.cell? ⟨l, 1, none⟩ = some (.int .i64 mx) ∧ w.cell? ⟨l, 2, none⟩ = some (.int .i64 nc) ∧ w.cell? ⟨l, 3, none⟩ = some (.int .i64 hi) ∧
    w.cell? ⟨l, 4, none⟩ = some (.slice (some ⟨a, 0, none⟩) n n) ∧ ∀ i, w.frozen? ⟨l, i, none⟩ = false :=
  ⟨by rw [cell_of_block h]; rfl, by rw [cell_of_block h]; rfl, by rw [cell_of_block h]; rfl, by rw [cell_of_block h]; rfl, by rw [cell_of_block h]; rfl, fun i => free_of_block h i⟩

theorem one_get {n i c j d : Nat} (h : ((List.replicate n (none : Option Nat)).set i (some c))[j]? = some (some d)) : d = c ∧ j = i := by
  by_cases e : i = j
  · subst e
    by_cases hi : i < n
    · rw [List.getElem?_set_self (by simpa using hi)] at h
      simp at h
      exact ⟨h.symm, rfl⟩
    · rw [List.getElem?_eq_none (by simp; omega)] at h; cases h
  · rw [List.getElem?_set_ne e, List.getElem?_replicate] at h
    split at h <;> simp at h

theorem nones_filter {l : List (Option Nat)} (h : ∀ x, x ∈ l → x = none) : l.filterMap id = [] := by
  rw [List.filterMap_eq_nil_iff]
  intro x hx
  rw [h x hx]; rfl

theorem one_filter {n i c : Nat} (hi : i < n) : ((List.replicate n (none : Option Nat)).set i (some c)).filterMap id = [c] := by
  have h := filter_set (A := List.replicate n (none : Option Nat)) (i := i) (x := c) (by rw [List.getElem?_replicate, if_pos hi])
  rw [nones_filter (fun x hx => List.eq_of_mem_replicate hx)] at h
  exact List.perm_singleton.1 h

theorem one_drop {n i c p : Nat} (hi : i < n) (hp : p ≤ i) : (((List.replicate n (none : Option Nat)).set i (some c)).drop p).filterMap id = [c] := by
  have h := one_filter (c := c) hi
  rw [← List.take_append_drop p ((List.replicate n (none : Option Nat)).set i (some c)), List.filterMap_append, nones_filter] at h
  · simpa using h
  · intro x hx
    obtain ⟨j, hj⟩ := List.mem_iff_getElem?.1 hx
    rw [List.getElem?_take] at hj
    split at hj
    · cases x with
      | none => rfl
      | some d => have := (one_get hj).2; omega
    · cases hj

theorem one_take {n i c p : Nat} (hi : i < n) (hp : i < p) : (((List.replicate n (none : Option Nat)).set i (some c)).take p).filterMap id = [c] := by
  have h := one_filter (c := c) hi
  rw [← List.take_append_drop p ((List.replicate n (none : Option Nat)).set i (some c)), List.filterMap_append, nones_filter (l := List.drop p _)] at h
  · simpa using h
  · intro x hx
    obtain ⟨j, hj⟩ := List.mem_iff_getElem?.1 hx
    rw [List.getElem?_drop] at hj
    cases x with
    | none => rfl
    | some d => have := (one_get hj).2; omega

/-- A byte ahead of the least: a longer array. -/
theorem dn_low {w W W1 : World} {fb : Nat → UInt8} {l a mn hi c N : Nat} {arr : List (Option Nat)} (hraw : CLraw w (.dn l a mn hi arr)) (hp : (CL.dn l a mn hi arr).placed fb)
    (hlt : (fb c).toNat < mn) (h1 : mn + arr.length ≤ (fb c).toNat + N) (h2 : (fb c).toNat + N ≤ mn + arr.length)
    (hG : Hid (W.heap[w.heap.size]? = some (.cells (arrV (((List.replicate N none).set 0 (some c)).take (mn - (fb c).toNat) ++ (arr ++ ((List.replicate N none).set 0 (some c)).drop (mn - (fb c).toNat + arr.length)))) 50 (0, 0))))
    (hL : Hid (W.heap[l]? = some (dnObj mn ((mn : Int) + arr.length - 1) ((arr.filterMap id).length : Int) hi a arr.length))) (hT0 : Hid (Tch w W1 (fun _ => False))) (hT : Hid (Tch W1 W (fun k => k = w.heap.size))) :
    AddP w fb (.dn l a mn hi arr) c (.returned (.iface 145 (.pointer (some ⟨l, 0, none⟩))))
      ((((W.setCell ⟨l, 4, none⟩ (.slice (some ⟨w.heap.size, 0, none⟩) N N)).setCell ⟨l, 0, none⟩ (.int .i64 ((fb c).toNat : Int))).setCell ⟨l, 2, none⟩ (.int .i64 (((arr.filterMap id).length : Int) + 1))).setCell ⟨l, 3, none⟩ (.int .i64 0)) ∧
    (hi = 0 → AddP w fb (.dn l a mn hi arr) c (.returned (.iface 145 (.pointer (some ⟨l, 0, none⟩))))
      (((W.setCell ⟨l, 4, none⟩ (.slice (some ⟨w.heap.size, 0, none⟩) N N)).setCell ⟨l, 0, none⟩ (.int .i64 ((fb c).toNat : Int))).setCell ⟨l, 2, none⟩ (.int .i64 (((arr.filterMap id).length : Int) + 1)))) := by
  obtain ⟨hl, hcap, hhi, hnone, ha⟩ := hraw
  have hlw := lt_of_heap hl
  have hpos : 0 < N := by omega
  obtain ⟨arr', harr⟩ : ∃ A, ((List.replicate N none).set 0 (some c)).take (mn - (fb c).toNat) ++ arr = A := ⟨_, rfl⟩
  have htl : (((List.replicate N (none : Option Nat)).set 0 (some c)).take (mn - (fb c).toNat)).length = mn - (fb c).toNat := by simp; omega
  have hG' : W.heap[w.heap.size]? = some (.cells (arrV arr') 50 (0, 0)) := by
    have := hG.out
    rw [List.drop_eq_nil_of_le (by simp; omega), List.append_nil, harr] at this
    exact this
  have hlen : arr'.length = N := by rw [← harr, List.length_append, htl]; omega
  have hfil : arr'.filterMap id = c :: arr.filterMap id := by rw [← harr, List.filterMap_append, one_take hpos (by omega)]; rfl
  have hTT : Tch w W (fun k => k = l ∨ k = a) := (hT0.out.mono (fun _ _ h => h.elim)).trans hT.out (fun b hb e => by omega)
  have hlW := dn_set2 (dn_set0 (dn_set4 hL.out w.heap.size N) ((fb c).toNat : Int)) (((arr.filterMap id).length : Int) + 1)
  have hlW3 := dn_set3 hlW 0
  rw [← hlen] at hlW hlW3
  rw [← hlen]
  have hpl : ∀ (i d : Nat), arr'[i]? = some (some d) → (fb d).toNat = (fb c).toNat + i := by
    intro i d h
    rw [← harr] at h
    by_cases hi2 : i < mn - (fb c).toNat
    · rw [List.getElem?_append_left (by omega), List.getElem?_take, if_pos hi2] at h
      obtain ⟨rfl, h3⟩ := one_get h
      omega
    · rw [List.getElem?_append_right (by omega), htl] at h
      have := hp _ d h
      omega
  have hT3 := ((hTT.setCell ⟨l, 4, none⟩ (.slice (some ⟨w.heap.size, 0, none⟩) arr'.length arr'.length) (fun _ => .inl rfl)).setCell ⟨l, 0, none⟩ (.int .i64 ((fb c).toNat : Int)) (fun _ => .inl rfl)).setCell ⟨l, 2, none⟩ (.int .i64 (((arr.filterMap id).length : Int) + 1)) (fun _ => .inl rfl)
  refine ⟨?_, fun h0 => ?_⟩
  · refine dn_post w.heap.size (fb c).toNat 0 _ _ arr' (hT3.setCell ⟨l, 3, none⟩ (.int .i64 0) (fun _ => .inl rfl)) hlW3 ?_ (by omega) (by rw [hfil]; simp) (by omega) (by omega) (fun j hj => by omega) (by rw [hfil]) hpl (.inr (Nat.le_refl _))
    rw [heap_set_ne (by simp; omega), heap_set_ne (by simp; omega), heap_set_ne (by simp; omega), heap_set_ne (by simp; omega)]; exact hG'
  · subst h0
    refine dn_post w.heap.size (fb c).toNat 0 _ _ arr' hT3 hlW ?_ (by omega) (by rw [hfil]; simp) (by omega) (by omega) (fun j hj => by omega) (by rw [hfil]) hpl (.inr (Nat.le_refl _))
    rw [heap_set_ne (by simp; omega), heap_set_ne (by simp; omega), heap_set_ne (by simp; omega)]; exact hG'

/-- A byte behind the greatest: a longer array. -/
theorem dn_high {w W W0 : World} {fb : Nat → UInt8} {l a mn hi c N : Nat} {arr : List (Option Nat)} (hraw : CLraw w (.dn l a mn hi arr)) (hp : (CL.dn l a mn hi arr).placed fb)
    (hge : mn + arr.length ≤ (fb c).toNat) (h1 : (fb c).toNat + 1 ≤ mn + N) (h2 : mn + N ≤ (fb c).toNat + 1)
    (hG : Hid (W.heap[w.heap.size]? = some (.cells (arrV (((List.replicate N none).set ((fb c).toNat - mn) (some c)).take 0 ++ (arr ++ ((List.replicate N none).set ((fb c).toNat - mn) (some c)).drop (0 + arr.length)))) 50 (0, 0))))
    (hL : Hid (W.heap[l]? = some (dnObj mn ((mn : Int) + arr.length - 1) ((arr.filterMap id).length : Int) hi a arr.length))) (hT0 : Hid (Tch w W0 (fun _ => False))) (hT : Hid (Tch W0 W (fun k => k = w.heap.size))) :
    AddP w fb (.dn l a mn hi arr) c (.returned (.iface 145 (.pointer (some ⟨l, 0, none⟩))))
      (((W.setCell ⟨l, 4, none⟩ (.slice (some ⟨w.heap.size, 0, none⟩) N N)).setCell ⟨l, 1, none⟩ (.int .i64 ((fb c).toNat : Int))).setCell ⟨l, 2, none⟩ (.int .i64 (((arr.filterMap id).length : Int) + 1))) := by
  obtain ⟨hl, hcap, hhi, hnone, ha⟩ := hraw
  have hlw := lt_of_heap hl
  have h256 : (fb c).toNat < 256 := (fb c).toNat_lt
  have hidx : (fb c).toNat - mn < N := by omega
  obtain ⟨arr', harr⟩ : ∃ A, arr ++ ((List.replicate N none).set ((fb c).toNat - mn) (some c)).drop arr.length = A := ⟨_, rfl⟩
  have hG' : W.heap[w.heap.size]? = some (.cells (arrV arr') 50 (0, 0)) := by
    have := hG.out
    rw [List.take_zero, List.nil_append, Nat.zero_add, harr] at this
    exact this
  have hlen : arr'.length = N := by rw [← harr]; simp; omega
  have hfil : arr'.filterMap id = arr.filterMap id ++ [c] := by rw [← harr, List.filterMap_append, one_drop hidx (by omega)]
  have hTT : Tch w W (fun k => k = l ∨ k = a) := (hT0.out.mono (fun _ _ h => h.elim)).trans hT.out (fun b hb e => by omega)
  have hlW := dn_set2 (dn_set1 (dn_set4 hL.out w.heap.size N) ((fb c).toNat : Int)) (((arr.filterMap id).length : Int) + 1)
  rw [← hlen] at hlW
  rw [← hlen]
  refine dn_post w.heap.size mn hi _ _ arr' (((hTT.setCell _ _ (fun _ => .inl rfl)).setCell _ _ (fun _ => .inl rfl)).setCell _ _ (fun _ => .inl rfl)) hlW ?_ (by omega) (by rw [hfil]; simp) (by omega) (by omega) ?_ (by rw [hfil]; exact List.perm_append_comm) ?_ (.inr (Nat.le_refl _))
  · rw [heap_set_ne (by simp; omega), heap_set_ne (by simp; omega), heap_set_ne (by simp; omega)]; exact hG'
  · intro j hj
    rw [← harr, List.getElem?_append_left (by omega)]
    exact hnone j hj
  · intro i d h
    rw [← harr] at h
    by_cases hi2 : i < arr.length
    · rw [List.getElem?_append_left hi2] at h
      exact hp i d h
    · rw [List.getElem?_append_right (by omega), List.getElem?_drop] at h
      obtain ⟨rfl, h3⟩ := one_get h
      omega

set_option maxHeartbeats 6400000 in
set_option maxRecDepth 100000 in
theorem dn_add (w : World) (fb : Nat → UInt8) (l a mn hi : Nat) (arr : List (Option Nat)) (c : Nat) (hraw : CLraw w (.dn l a mn hi arr)) (hp : (CL.dn l a mn hi arr).placed fb) (hcb : FB w c (fb c))
    (hn : ∀ x, x ∈ arr.filterMap id → fb x ≠ fb c) :
    Calls Try.prog 144 #[ptr l, ptr c] w (AddP w fb (.dn l a mn hi arr) c) := by
  have HR := Lib.hid hraw
  obtain ⟨hl, hcap, hhi, hnone, ha⟩ := hraw
  have c0 : w.cell? ⟨l, 0, none⟩ = some (.int .i64 mn) := by rw [cell_of_block hl]; rfl
  have c1 : w.cell? ⟨l, 1, none⟩ = some (.int .i64 ((mn : Int) + arr.length - 1)) := by rw [cell_of_block hl]; rfl
  have c2 : w.cell? ⟨l, 2, none⟩ = some (.int .i64 (arr.filterMap id).length) := by rw [cell_of_block hl]; rfl
  have c3 : w.cell? ⟨l, 3, none⟩ = some (.int .i64 hi) := by rw [cell_of_block hl]; rfl
  have c4 : w.cell? ⟨l, 4, none⟩ = some (.slice (some ⟨a, 0, none⟩) arr.length arr.length) := by rw [cell_of_block hl]; rfl
  have hfl : (arr.filterMap id).length ≤ 256 := by
    have := List.length_filterMap_le id arr
    omega
  obtain ⟨sb, so, n, cp, d2, hn0, d3⟩ := hcb
  have hb256 : (fb c).toNat < 256 := (fb c).toNat_lt
  have hal : ¬ a = l := fun h => ne_of_type hl ha (by decide) h.symm
  have hla : ¬ l = a := fun h => hal h.symm
  have fl : ∀ i, w.frozen? ⟨l, i, none⟩ = false := fun i => free_of_block hl i
  have fa : ∀ i, w.frozen? ⟨a, i, none⟩ = false := fun i => free_of_block ha i
  have hac : ∀ i, w.cell? ⟨a, i, none⟩ = (arr[i]?).map optr := fun i => by rw [cell_of_block ha]; simp
  have HL := Lib.hid hl
  have HA := Lib.hid ha
  have HN := Lib.hid hn
  have HP := Lib.hid hp
  have HNO := Lib.hid hnone
  have HAC := Lib.hid hac
  have fl1 := fl 1
  have fl2 := fl 2
  have fl3 := fl 3
  have fl0 := fl 0
  have fl4 := fl 4
  clear hl ha hn hp hnone hac fl
  by_cases h1 : mn ≤ (fb c).toNat
  · by_cases h2 : (fb c).toNat < mn + arr.length
    · have hfree := dn_free HP.out HN.out h1 h2
      have c5 : w.cell? ⟨a, (fb c).toNat - mn, none⟩ = some (.pointer none) := by rw [HAC.out, hfree]; rfl
      have f5 := fa ((fb c).toNat - mn)
      have HF := Lib.hid hfree
      clear fa hfree
      have g1 : (mn : Int) ≤ ((fb c).toNat : Int) := by omega
      have g2 : ((fb c).toNat : Int) ≤ (mn : Int) + (arr.length : Int) - 1 := by omega
      have e1 : IntKind.i64.wrap (((fb c).toNat : Int) - (mn : Int)) = ((fb c).toNat : Int) - (mn : Int) := IntWalk.i64_in _ (by omega)
      have e2 : (0 : Int) ≤ ((fb c).toNat : Int) - (mn : Int) := by omega
      have e3 : (((fb c).toNat : Int) - (mn : Int)).toNat = (fb c).toNat - mn := by omega
      have e4 : ((fb c).toNat : Int) - (mn : Int) < (arr.length : Int) := by omega
      go_enter Try.func144, Try.ntmps144
      go_wp2_with fail
      go_quiet (fail)
      clear e1
      by_cases h4 : (fb c).toNat - mn < hi
      · have g5 : ((fb c).toNat : Int) - (mn : Int) < (hi : Int) := by omega
        go_wp2_with fail
        go_ret
        exact (dn_mid HR.out HP.out HF.out h1 rfl).2 h4
      · have g5 : ¬ ((fb c).toNat : Int) - (mn : Int) < (hi : Int) := by omega
        go_wp2_with fail
        go_ret
        exact (dn_mid HR.out HP.out HF.out h1 rfl).1 h4
    · -- behind the greatest
      have hge : mn + arr.length ≤ (fb c).toNat := by omega
      have g1 : (mn : Int) ≤ ((fb c).toNat : Int) := by omega
      have g2 : ¬ ((fb c).toNat : Int) ≤ (mn : Int) + (arr.length : Int) - 1 := by omega
      have g3 : ¬ ((fb c).toNat : Int) < (mn : Int) := by omega
      obtain ⟨N, hN⟩ : ∃ N, (fb c).toNat + 1 - mn = N := ⟨_, rfl⟩
      have hmk := mk_ptrs N (((fb c).toNat : Int) - (mn : Int) + 1) (by omega) (by omega)
      have HNN := Lib.hid hN
      have hN1 : (fb c).toNat + 1 ≤ mn + N := by omega
      have hN2 : mn + N ≤ (fb c).toNat + 1 := by omega
      clear hN
      have e2 : (0 : Int) ≤ ((fb c).toNat : Int) - (mn : Int) := by omega
      have e3 : (((fb c).toNat : Int) - (mn : Int)).toNat = (fb c).toNat - mn := by omega
      have e4 : ((fb c).toNat : Int) - (mn : Int) < (N : Int) := by omega
      have hlw : l < w.heap.size := World.block_lt_of_cell? w ⟨l, 0, none⟩ c0
      have haw : a < w.heap.size := lt_of_heap HA.out
      have k1 : (arrV (List.replicate N none))[(fb c).toNat - mn]? = some (.pointer none) := by
        rw [arrV_get, List.getElem?_replicate, if_pos (by omega)]; rfl
      clear fa
      have hX0 : (w.alloc (.cells ((arrV (List.replicate N none)).setIfInBounds ((fb c).toNat - mn) (.pointer (some ⟨c, 0, none⟩))) 50)).heap[w.heap.size]? = some (.cells (arrV ((List.replicate N none).set ((fb c).toNat - mn) (some c))) 50 (0, 0)) := by
        rw [heap_new, arrV_set]
      have hA0 : (w.alloc (.cells ((arrV (List.replicate N none)).setIfInBounds ((fb c).toNat - mn) (.pointer (some ⟨c, 0, none⟩))) 50)).heap[a]? = some (.cells (arrV arr) 50 (0, 0)) := heap_al HA.out
      have hL0 : (w.alloc (.cells ((arrV (List.replicate N none)).setIfInBounds ((fb c).toNat - mn) (.pointer (some ⟨c, 0, none⟩))) 50)).heap[l]? = some (dnObj mn ((mn : Int) + arr.length - 1) ((arr.filterMap id).length : Int) hi a arr.length) := heap_al HL.out
      have hT0 : Tch w (w.alloc (.cells ((arrV (List.replicate N none)).setIfInBounds ((fb c).toNat - mn) (.pointer (some ⟨c, 0, none⟩))) 50)) (fun _ => False) := (Tch.refl w _).alloc _
      have HX0 := Lib.hid hX0
      have HA0 := Lib.hid hA0
      have HL0 := Lib.hid hL0
      have HT0 := Lib.hid hT0
      clear hX0 hA0 hL0 hT0
      go_enter Try.func144, Try.ntmps144
      go_wp2_with ((with_reducible show wpList _ _ _ ((⟨some 39, _, _, _, _, _⟩ : Oper) :: _) _ _); refine wpList_copy_arr (o := ⟨some 39, _, _, _, _, _⟩) rfl rfl w.heap.size 0 N N a arr.length rfl rfl _ _ HX0.out HA0.out rfl (by omega) (by simp; omega) ?_; intro W hWg hWk hWT; have HG := Lib.hid hWg; have HK := Lib.hid hWk; have HT := Lib.hid hWT; have HWl : Hid (_ = _) := (hWk l (by omega)).trans HL0.out; obtain ⟨z0, z1, z2, z3, z4, z5⟩ := dn_cells HWl.out; have z50 := z5 0; have z51 := z5 1; have z52 := z5 2; have z53 := z5 3; have z54 := z5 4; clear hWg hWk hWT z5 c0 c1 c2 c3 c4 fl0 fl1 fl2 fl3 fl4 hmk k1)
      go_ret
      exact dn_high HR.out HP.out hge hN1 hN2 HG HWl HT0 HT
  · -- ahead of the least
    have hlt : (fb c).toNat < mn := by omega
    have g1 : ¬ (mn : Int) ≤ ((fb c).toNat : Int) := by omega
    have g3 : ((fb c).toNat : Int) < (mn : Int) := by omega
    obtain ⟨N, hN⟩ : ∃ N, mn + arr.length - (fb c).toNat = N := ⟨_, rfl⟩
    have hmk := mk_ptrs N ((mn : Int) + (arr.length : Int) - 1 - ((fb c).toNat : Int) + 1) (by omega) (by omega)
    have hN1 : mn + arr.length ≤ (fb c).toNat + N := by omega
    have hN2 : (fb c).toNat + N ≤ mn + arr.length := by omega
    clear hN
    have e1 : IntKind.i64.wrap ((mn : Int) - ((fb c).toNat : Int)) = (mn : Int) - ((fb c).toNat : Int) := IntWalk.i64_in _ (by omega)
    have e2 : (0 : Int) ≤ (mn : Int) - ((fb c).toNat : Int) := by omega
    have e3 : ((mn : Int) - ((fb c).toNat : Int)).toNat = mn - (fb c).toNat := by omega
    have e4 : (mn : Int) - ((fb c).toNat : Int) ≤ (N : Int) := by omega
    have e5 : ¬ N = mn - (fb c).toNat := by omega
    have hlw : l < w.heap.size := World.block_lt_of_cell? w ⟨l, 0, none⟩ c0
    have haw : a < w.heap.size := lt_of_heap HA.out
    have k1 : (arrV (List.replicate N none))[0]? = some (.pointer none) := by
      rw [arrV_get, List.getElem?_replicate, if_pos (by omega)]; rfl
    have k0 : 0 < N := by omega
    clear fa
    have hX0 : (w.alloc (.cells ((arrV (List.replicate N none)).setIfInBounds 0 (.pointer (some ⟨c, 0, none⟩))) 50)).heap[w.heap.size]? = some (.cells (arrV ((List.replicate N none).set 0 (some c))) 50 (0, 0)) := by
      rw [heap_new, arrV_set]
    have hA0 : (w.alloc (.cells ((arrV (List.replicate N none)).setIfInBounds 0 (.pointer (some ⟨c, 0, none⟩))) 50)).heap[a]? = some (.cells (arrV arr) 50 (0, 0)) := heap_al HA.out
    have hL0 : (w.alloc (.cells ((arrV (List.replicate N none)).setIfInBounds 0 (.pointer (some ⟨c, 0, none⟩))) 50)).heap[l]? = some (dnObj mn ((mn : Int) + arr.length - 1) ((arr.filterMap id).length : Int) hi a arr.length) := heap_al HL.out
    have hT0 : Tch w (w.alloc (.cells ((arrV (List.replicate N none)).setIfInBounds 0 (.pointer (some ⟨c, 0, none⟩))) 50)).drew (fun _ => False) := ((Tch.refl w _).alloc _).drw
    obtain ⟨W1, hW1⟩ : ∃ W1, (w.alloc (.cells ((arrV (List.replicate N none)).setIfInBounds 0 (.pointer (some ⟨c, 0, none⟩))) 50)).drew = W1 := ⟨_, rfl⟩
    have HX0 : Hid (W1.heap[w.heap.size]? = some (.cells (arrV ((List.replicate N none).set 0 (some c))) 50 (0, 0))) := by rw [← hW1]; exact hX0
    have HA0 : Hid (W1.heap[a]? = some (.cells (arrV arr) 50 (0, 0))) := by rw [← hW1]; exact hA0
    have HL0 : Hid (W1.heap[l]? = some (dnObj mn ((mn : Int) + arr.length - 1) ((arr.filterMap id).length : Int) hi a arr.length)) := by rw [← hW1]; exact hL0
    have HT0 : Hid (Tch w W1 (fun _ => False)) := by rw [← hW1]; exact hT0
    have HW1 := Lib.hid hW1
    obtain ⟨y0, y1, y2, y3, y4, y5⟩ := dn_cells HL0.out
    have hsl := slice_lo w.heap.size 0 N N (mn - (fb c).toNat) ((mn : Int) - ((fb c).toNat : Int)) (by omega) (by omega) (by omega)
    clear hX0 hA0 hL0 hT0 hW1 y5
    go_enter Try.func144, Try.ntmps144
    go_wp2_with fail
    refine wp_region_tail 12 (by kernel_rfl) (by kernel_rfl) HW1.out ?_
    simp only [List.take_succ_cons, List.take_zero, List.drop_succ_cons, List.drop_zero]
    repeat still_step
    refine wpStill_nil ?_
    go_wp2_with ((with_reducible show wpList _ _ _ ((⟨some 121, _, _, _, _, _⟩ : Oper) :: _) _ _); refine wpList_copy_arr (o := ⟨some 121, _, _, _, _, _⟩) rfl rfl w.heap.size (mn - (fb c).toNat) (N - (mn - (fb c).toNat)) (N - (mn - (fb c).toNat)) a arr.length rfl rfl _ _ HX0.out HA0.out rfl (by omega) (by simp; omega) ?_; intro W hWg hWk hWT; have HG := Lib.hid hWg; have HK := Lib.hid hWk; have HT := Lib.hid hWT; have HWl : Hid (_ = _) := (hWk l (by omega)).trans HL0.out; obtain ⟨z0, z1, z2, z3, z4, z5⟩ := dn_cells HWl.out; have z50 := z5 0; have z51 := z5 1; have z52 := z5 2; have z53 := z5 3; have z54 := z5 4; clear hWg hWk hWT z5 c0 c1 c2 c3 c4 fl0 fl1 fl2 fl3 fl4 hmk k1 y0 y1 y2 y3 y4 hsl e1 e2 e3 e4 e5)
    · go_ret
      exact (dn_low HR.out HP.out hlt hN1 hN2 HG HWl HT0 HT).1
    · go_ret
      exact (dn_low HR.out HP.out hlt hN1 hN2 HG HWl HT0 HT).2 (by omega)

/-- add of a list of children. -/
theorem add_any (w : World) (fb : Nat → UInt8) (cl : CL) (c : Nat) (hraw : CLraw w cl) (hkb : KB w fb cl) (hcb : FB w c (fb c)) (hn : ∀ x, x ∈ cl.kids → fb x ≠ fb c) :
    Calls Try.prog (cl.fn 112 144) #[ptr cl.l, ptr c] w (AddP w fb cl c) := by
  cases cl with
  | sp l a cap ks =>
    have hk : (CL.sp l a cap ks).kids = ks := rfl
    by_cases h : ks.length = cap
    · refine sp_add_full w fb l a cap ks c hraw h hkb.rd hcb ?_ ?_
      · intro x y hx hy e
        rcases List.mem_cons.1 hx with h1 | hx <;> rcases List.mem_cons.1 hy with h2 | hy
        · rw [h1, h2]
        · exact absurd e.symm (by rw [h1]; exact hn y hy)
        · exact absurd e (by rw [h2]; exact hn x hx)
        · exact hkb.ne x y hx hy e
      · exact List.nodup_cons.2 ⟨fun hm => hn c hm rfl, hkb.nodup⟩
    · exact sp_add_room w fb l a cap ks c hraw (by have := hraw.2.1; omega)
  | dn l a mn hi arr => exact dn_add w fb l a mn hi arr c hraw hkb.placed hcb hn

end Go.Proofs.Ytmdbnjepajifpaa

/- NewTrie makes a trie without keys. -/
namespace Go.Proofs.Ytmdbnjepajifpaa
open Go.RowKit

/-- A node that has just been made. -/
def freshNd (l a cap : Nat) (mp mc : Int) : Nd := { np := true, sb := 0, so := 0, sc := 0, px := [], it := none, mp := mp, mc := mc, cl := .sp l a cap [] }

def FreshP (mp mc : Int) (cap : Nat) (w : World) (e : Ending) (w' : World) : Prop :=
  ∃ p l a, e = .returned (ptr p) ∧ w.heap.size ≤ p ∧ w.heap.size ≤ l ∧ w.heap.size ≤ a ∧ w'.heap[p]? = some (freshNd l a cap mp mc).obj ∧ CLraw w' (.sp l a cap []) ∧ Tch w w' (fun _ => False)

theorem mk_tries (n : Nat) (h : n ≤ 1000) (W : World) :
    (Instr.makeSlice 103 (.int .i64 0) (.int .i64 (n : Int))).run Try.prog W = .ok (.slice (some ⟨W.heap.size, 0, none⟩) 0 n) (W.alloc (.cells (arrV (List.replicate n none)) 50)) := by
  obtain ⟨i0, hi, hz0, hz1, hz2⟩ := info_parts infoPtr
  rw [run_make (P := Try.prog) W 103 50 i0 (.pointer none) Try.underlying103 hi hz0 .i64 .i64 0 n (by omega) (by omega) (by rw [hz2]; omega) (by omega)]
  simp only [Int.toNat_natCast, hz1, arrV_nil]
  rfl

/-- newSparseChildList. -/
def NSP (n : Nat) (w : World) (e : Ending) (w' : World) : Prop :=
  e = .returned (.iface 102 (.pointer (some ⟨w.heap.size + 1, 0, none⟩))) ∧ w' = (w.alloc (.cells (arrV (List.replicate n none)) 50)).alloc (.cells #[.slice (some ⟨w.heap.size, 0, none⟩) 0 n] 105)

theorem newSparse_any (w : World) (n : Nat) (h : n ≤ 1000) : Calls Try.prog 73 #[.int .i64 (n : Int)] w (NSP n w) := by
  have hmk := mk_tries n h
  go_enter Try.func73, Try.ntmps73
  go_wp2_with fail
  go_ret
  exact ⟨rfl, rfl⟩

theorem newSparse8 (w : World) : Calls Try.prog 73 #[.int .i64 8] w (NSP 8 w) := newSparse_any w 8 (by omega)

theorem fresh_post {w : World} {mp mc : Int} {n : Nat} (A : List (Option Nat)) (hA : A.length = n) (hn : n ≤ 12) :
    FreshP mp mc n w (.returned (.pointer (some ⟨w.heap.size, 0, none⟩)))
      (((w.alloc (.cells #[.slice none 0 0, .nilIface, .int .i64 mp, .int .i64 mc, .iface 102 (.pointer (some ⟨w.heap.size + 1 + 1, 0, none⟩))] 82)).alloc (.cells (arrV A) 50)).alloc (.cells #[.slice (some ⟨w.heap.size + 1, 0, none⟩) 0 n] 105)) := by
  have hp := heap_new w (.cells #[.slice none 0 0, .nilIface, .int .i64 mp, .int .i64 mc, .iface 102 (.pointer (some ⟨w.heap.size + 1 + 1, 0, none⟩))] 82)
  obtain ⟨W, hW⟩ : ∃ W, w.alloc (.cells #[.slice none 0 0, .nilIface, .int .i64 mp, .int .i64 mc, .iface 102 (.pointer (some ⟨w.heap.size + 1 + 1, 0, none⟩))] 82) = W := ⟨_, rfl⟩
  have hs : w.heap.size + 1 = W.heap.size := by rw [← hW]; simp
  have hT : Tch w W (fun _ => False) := by rw [← hW]; exact (Tch.refl w _).alloc _
  rw [hW] at hp
  rw [hW]
  rw [hs] at hp
  rw [hs]
  have ha : ((W.alloc (.cells (arrV A) 50)).alloc (.cells #[.slice (some ⟨W.heap.size, 0, none⟩) 0 n] 105)).heap[W.heap.size]? = some (.cells (arrV A) 50 (0, 0)) := heap_al (heap_new W _)
  have hl : ((W.alloc (.cells (arrV A) 50)).alloc (.cells #[.slice (some ⟨W.heap.size, 0, none⟩) 0 n] 105)).heap[W.heap.size + 1]? = some (.cells #[.slice (some ⟨W.heap.size, 0, none⟩) 0 n] 105 (0, 0)) := by
    have := heap_new (W.alloc (.cells (arrV A) 50)) (.cells #[.slice (some ⟨W.heap.size, 0, none⟩) 0 n] 105)
    rw [World.size_alloc] at this
    exact this
  exact ⟨w.heap.size, W.heap.size + 1, W.heap.size, rfl, Nat.le_refl _, by omega, by omega, heap_al (heap_al hp), ⟨hl, by simp, hn, arrV A, ha, by simp [arrV, hA], fun i c h => by simp at h⟩, (hT.alloc _).alloc _⟩

set_option maxHeartbeats 1600000 in
theorem newTrie_nil (w : World) : Calls Try.prog 59 #[.slice none 0 0] w (FreshP 10 8 8 w) := by
  go_enter Try.func59, Try.ntmps59
  go_wp2_with fail
  refine wp_loop_rounds 1 ?_
  rw [rounds_succ]
  go_wp2_with fail
  refine (newSparse8 _).mono ?_
  rintro e w' ⟨rfl, rfl⟩
  go_wp2_with fail
  go_ret
  exact fresh_post (n := 8) [none, none, none, none, none, none, none, none] rfl (by omega)

end Go.Proofs.Ytmdbnjepajifpaa

/- compact returns the node itself, or its one child with the two parts of the key joined. -/
namespace Go.Proofs.Ytmdbnjepajifpaa
open Go.RowKit

theorem infoByte : (Try.prog.info? 5).map (fun i => (i.zero, i.size, i.bytes)) = some (some (.int .u8 0), 1, 1) := by kernel_rfl

/-- Bytes as cells. -/
def bytesV (l : List UInt8) : List Value := l.map (fun b => .int .u8 (b.toNat : Int))

theorem bytesV_len (l : List UInt8) : (bytesV l).length = l.length := by simp [bytesV]
theorem bytesV_get (l : List UInt8) (i : Nat) (u : Value) (h : (bytesV l)[i]? = some u) : i < l.length ∧ u = .int .u8 ((l.getD i 0).toNat : Int) := by
  simp only [bytesV, List.getElem?_map, Option.map_eq_some_iff] at h
  obtain ⟨b, hb, rfl⟩ := h
  refine ⟨(List.getElem?_eq_some_iff.1 hb).1, ?_⟩
  rw [List.getD_eq_getElem?_getD, hb]; rfl
theorem bytesV_at (l : List UInt8) (i : Nat) (h : i < l.length) : (bytesV l)[i]? = some (.int .u8 ((l.getD i 0).toNat : Int)) := by
  simp [bytesV, List.getD_eq_getElem?_getD, h]
theorem bytesV_one (l : List UInt8) : ∀ u, u ∈ bytesV l → u.oneCell' = true := by
  intro u hu
  simp only [bytesV, List.mem_map] at hu
  obtain ⟨b, _, rfl⟩ := hu
  rfl

theorem setCells_heap (b : Nat) (t : TypeId) (fr : Nat × Nat) : ∀ (vs : List Value) (o : Nat) (w : World) (C : Array Value), w.heap[b]? = some (.cells C t fr) →
    ∃ C', (w.setCells b o vs).heap[b]? = some (.cells C' t fr) ∧ C'.size = C.size ∧ (∀ i, i < o ∨ o + vs.length ≤ i → C'[i]? = C[i]?) ∧ (∀ i u, o + i < C.size → vs[i]? = some u → C'[o + i]? = some u)
  | [], _, _, C, h => ⟨C, h, rfl, fun _ _ => rfl, fun i u _ hu => by simp at hu⟩
  | v :: r, o, w, C, h => by
    obtain ⟨C', h1, h2, h3, h4⟩ := setCells_heap b t fr r (o + 1) (w.setCell ⟨b, o, none⟩ v) (C.setIfInBounds o v) (heap_set h v)
    refine ⟨C', h1, by simpa using h2, fun i hi => ?_, fun i u hi hu => ?_⟩
    · rw [h3 i (by simp at hi ⊢; omega), Array.getElem?_setIfInBounds_ne (by simp at hi; omega)]
    · cases i with
      | zero =>
        simp at hu; subst hu
        rw [h3 (o + 0) (by omega)]
        rw [Nat.add_zero, Array.getElem?_setIfInBounds_self, if_pos (by omega)]
      | succ i =>
        have := h4 i u (by simp; omega) (by simpa using hu)
        rw [show o + (i + 1) = o + 1 + i by omega]
        exact this
theorem setCells_heap_ne (b : Nat) : ∀ (vs : List Value) (o : Nat) (w : World) (k : Nat), k ≠ b → (w.setCells b o vs).heap[k]? = w.heap[k]?
  | [], _, _, _, _ => rfl
  | v :: r, o, w, k, h => by rw [World.setCells, setCells_heap_ne b r _ _ k h, heap_set_ne h]
theorem setCells_meta (b : Nat) : ∀ (vs : List Value) (o : Nat) (w : World), (w.setCells b o vs).os = w.os ∧ (w.setCells b o vs).tape = w.tape ∧ (w.setCells b o vs).output = w.output ∧ (w.setCells b o vs).heap.size = w.heap.size
  | [], _, _ => ⟨rfl, rfl, rfl, rfl⟩
  | v :: r, o, w => by
    obtain ⟨h1, h2, h3, h4⟩ := setCells_meta b r (o + 1) (w.setCell ⟨b, o, none⟩ v)
    exact ⟨h1, h2, h3, by rw [World.setCells, h4]; simp⟩

/-- An append of bytes to bytes: in place, or in a new block. -/
def AppR (w0 : World) (b off n cap : Nat) (olds news : List UInt8) (b' o' cap' : Nat) (w' : World) : Prop :=
  Tch w0 w' (fun k => k = b) ∧
  ((n + news.length ≤ cap ∧ b' = b ∧ o' = off ∧ cap' = cap ∧ ∀ C fr, w0.heap[b]? = some (.cells C 5 fr) → ∃ C', w'.heap[b]? = some (.cells C' 5 fr) ∧ C'.size = C.size ∧ (∀ i, i < off + n ∨ off + n + news.length ≤ i → C'[i]? = C[i]?) ∧
      (∀ i, i < news.length → C'[off + n + i]? = some (.int .u8 ((news.getD i 0).toNat : Int)))) ∨
   (w0.heap.size ≤ b' ∧ o' = 0 ∧ n + news.length ≤ cap' ∧ Tch w0 w' (fun _ => False) ∧ ∃ C, w'.heap[b']? = some (.cells C 5 (0, 0)) ∧ C.size = cap' ∧ ∀ i, i < (olds ++ news).length → C[i]? = some (.int .u8 (((olds ++ news).getD i 0).toNat : Int))))

set_option maxRecDepth 100000 in
theorem step_append_bytes {ops : Array Oper} {o : Oper} {a : Act} {W : World} {K : Act → World → Prop} {Q : Exit → Act → World → Prop} {E : Prop} (hg : o.guard = none) (s x : Operand)
    (hop : o.op = Op.call { callee := Callee.builtin Builtin.append, args := #[s, x], argTypes := #[53, 53] }) (w0 : World) (hsame : W.heap = w0.heap ∧ W.os = w0.os ∧ W.tape = w0.tape ∧ W.output = w0.output)
    (b off n cap : Nat) (hs : a.eval s = .slice (some ⟨b, off, none⟩) n cap) (olds : List UInt8) (hn : olds.length = n) (xb xo m xc : Nat) (hx : a.eval x = .slice (some ⟨xb, xo, none⟩) m xc) (news : List UInt8) (hm : news.length = m)
    (hpos : 0 < n + m) (ho : KS w0 b off olds) (hnw : KS w0 xb xo news) (hblk : ∃ (C : Array Value) (fr : Nat × Nat), w0.heap[b]? = some (.cells C 5 fr) ∧ off + cap ≤ C.size ∧ (∀ i, i < C.size → w0.frozen? ⟨b, i, none⟩ = false)) (hsz : n + m ≤ 100000)
    (hK : ∀ b' o' cap' w', AppR w0 b off n cap olds news b' o' cap' w' → K (a.put o.dst (.slice (some ⟨b', o', none⟩) (n + m) cap')) w') :
    if Region.wanted o (yielded ops a.tmps) = true then Oper.wp Try.prog o a W K Q else E := by
  obtain ⟨i0, hi, hz0, hz1, hz2⟩ := info_parts infoByte
  obtain ⟨s1, s2, s3, s4⟩ := hsame
  obtain ⟨C, fr, hC1, hC2, hC3⟩ := hblk
  have cW : ∀ p, W.cell? p = w0.cell? p := fun p => by simp [World.cell?, s1]
  have fW : ∀ p, W.frozen? p = w0.frozen? p := fun p => by simp [World.frozen?, s1]
  have T0 : ∀ T, Tch w0 W T := fun T => ⟨s2, s3, s4, by rw [s1]; exact Nat.le_refl _, fun k _ _ => by rw [s1]⟩
  subst hn
  subst hm
  by_cases hroom : olds.length + news.length ≤ cap
  · refine step_append_room hg s x 53 hop 5 i0 1 Try.underlying53 hi hz1 b off olds.length cap hs ⟨xb, xo, none⟩ news.length xc (bytesV news) hx (by rw [bytesV_len]; omega) ?_ (bytesV_one _) hroom ?_ ?_
    · intro j u hj
      obtain ⟨hlt, rfl⟩ := bytesV_get _ _ _ hj
      rw [Addr.add_lit, cW]
      exact hnw j hlt
    · intro j hj
      rw [bytesV_len] at hj
      rw [cW, fW, Nat.mul_one, cell_of_block hC1, Array.getElem?_eq_getElem (by omega)]
      exact ⟨rfl, hC3 _ (by omega)⟩
    · obtain ⟨m1, m2, m3, m4⟩ := setCells_meta b (bytesV news) (off + olds.length * 1) W
      refine hK b off cap _ ⟨⟨m1.trans s2, m2.trans s3, m3.trans s4, by rw [m4, s1]; exact Nat.le_refl _, fun k _ hk => by rw [setCells_heap_ne b _ _ _ k hk, s1]⟩, .inl ⟨hroom, rfl, rfl, rfl, fun C2 fr2 h2 => ?_⟩⟩
      rw [hC1] at h2
      injection h2 with h2
      injection h2 with e1 _ e2
      subst e1 e2
      obtain ⟨C', h1, h2, h3, h4⟩ := setCells_heap b 5 fr (bytesV news) (off + olds.length * 1) W C (by rw [s1]; exact hC1)
      rw [Nat.mul_one] at h1 h3 h4
      rw [Nat.mul_one]
      refine ⟨C', h1, h2, fun i hi => h3 i (by rw [bytesV_len]; exact hi), fun i hi => h4 i _ (by omega) (bytesV_at _ _ hi)⟩
  · refine step_append_grows hg s x 53 hop 5 i0 (.int .u8 0) 1 1 Try.underlying53 hi hz0 hz1 hz2 rfl (by decide) (some ⟨b, off, none⟩) olds.length cap (bytesV olds) hs (by simp) (by rw [bytesV_len]; omega) ?_ ⟨xb, xo, none⟩ news.length xc (bytesV news) hx (by rw [bytesV_len]; omega) ?_ (bytesV_one _) (by omega) (by unfold maxLen; omega) (by omega) ?_
    · intro b2 hb2 j u hj
      obtain ⟨hlt, rfl⟩ := bytesV_get _ _ _ hj
      injection hb2 with hb2
      subst hb2
      rw [Addr.add_lit, cW]
      exact ho j hlt
    · intro j u hj
      obtain ⟨hlt, rfl⟩ := bytesV_get _ _ _ hj
      rw [Addr.add_lit, cW]
      exact hnw j hlt
    · intro v' w' hown hgrow
      rcases hown.2 with ⟨_, h0⟩ | ⟨g, cap', cur, rfl, hg2, hh, hnc, _, hcs, htk⟩
      · omega
      · rw [s1] at hg2
        have T1 : ∀ T, Tch w0 w' T := fun T => (T0 T).grown hgrow (fun b hb => by cases hb)
        refine hK g 0 cap' w' ⟨T1 _, .inr ⟨hg2, rfl, hnc, T1 _, cur, hh, by omega, fun i hi => ?_⟩⟩
        have hb : bytesV olds ++ bytesV news = bytesV (olds ++ news) := by simp [bytesV]
        rw [hb, Nat.mul_one] at htk
        have h1 := bytesV_at (olds ++ news) i hi
        rw [← htk, List.getElem?_take] at h1
        split at h1
        · simpa using h1
        · cases h1

/-- The joined child: where its bytes lie now. -/
def joined (d dc : Nd) (sb so sc : Nat) : Nd := { dc with np := false, sb := sb, so := so, sc := sc, px := d.px ++ dc.px }

/-- What compact leaves where it joins: the child's first cell is another slice; its bytes lie behind the node's own, in the node's block, or in a new block. -/
def JoinP (w : World) (_p c : Nat) (d dc : Nd) (e : Ending) (w' : World) : Prop :=
  e = .returned (ptr c) ∧ d.cl.kids = [c] ∧ d.it = none ∧ dc.it = none ∧
    ((d.px.length + dc.px.length ≤ d.sc ∧ w'.heap[c]? = some (joined d dc d.sb d.so d.sc).obj ∧
        (∀ C fr, w.heap[d.sb]? = some (.cells C 5 fr) → ∃ C', w'.heap[d.sb]? = some (.cells C' 5 fr) ∧ C'.size = C.size ∧ (∀ i, i < d.so + d.px.length ∨ d.so + d.px.length + dc.px.length ≤ i → C'[i]? = C[i]?) ∧
          ∀ i, i < dc.px.length → C'[d.so + d.px.length + i]? = some (.int .u8 ((dc.px.getD i 0).toNat : Int))) ∧
        Tch w w' (fun k => k = c ∨ k = d.sb)) ∨
     (∃ g cap C, w.heap.size ≤ g ∧ d.px.length + dc.px.length ≤ cap ∧ w'.heap[c]? = some (joined d dc g 0 cap).obj ∧ w'.heap[g]? = some (.cells C 5 (0, 0)) ∧ C.size = cap ∧
        (∀ i, i < (d.px ++ dc.px).length → C[i]? = some (.int .u8 (((d.px ++ dc.px).getD i 0).toNat : Int))) ∧ Tch w w' (fun k => k = c)))

def CompactP (w : World) (p : Nat) (d : Nd) (nd : Nat → Nd) (e : Ending) (w' : World) : Prop :=
  (e = .returned (ptr p) ∧ ∃ n, w' = w.drewN n) ∨ ∃ c, JoinP w p c d (nd c) e w'

theorem ret_self {w : World} {p : Nat} {d : Nd} {nd : Nat → Nd} {v : Value} (n : Nat) (hv : v = ptr p) : CompactP w p d nd (.returned v) (w.drewN n) := .inl ⟨by rw [hv], n, rfl⟩

theorem ret_self' {w w' : World} {p : Nat} {d : Nd} {nd : Nat → Nd} {v : Value} (hv : v = ptr p) (hw : ∃ n, w' = w.drewN n) : CompactP w p d nd (.returned v) w' := .inl ⟨by rw [hv], hw⟩

theorem join_post {w w' : World} {p c b' o' cap' : Nat} {d : Nd} {nd : Nat → Nd} (HC : Hid (d.cl.kids = [c])) (Hit : Hid (d.it = none)) (Hict : Hid ((nd c).it = none)) (Hc : Hid (HN w c (nd c))) (_Hcn : Hid ((nd c).np = false))
    (_HBK : Hid (∃ (C : Array Value) (fr : Nat × Nat), w.heap[d.sb]? = some (.cells C 5 fr) ∧ d.so + d.sc ≤ C.size ∧ (∀ i, i < C.size → w.frozen? ⟨d.sb, i, none⟩ = false)))
    (HR : Hid (AppR w d.sb d.so d.px.length d.sc d.px (nd c).px b' o' cap' w')) (HQ : Hid (w'.heap[c]? = some (nd c).obj)) (hcb : c ≠ d.sb) :
    CompactP w p d nd (.returned (.pointer (some ⟨c, 0, none⟩))) (w'.setCell ⟨c, 0, none⟩ (.slice (some ⟨b', o', none⟩) (d.px.length + (nd c).px.length) cap')) := by
  have hobj : (w'.setCell ⟨c, 0, none⟩ (.slice (some ⟨b', o', none⟩) (d.px.length + (nd c).px.length) cap')).heap[c]? = some (joined d (nd c) b' o' cap').obj := by
    have := heap_set (i := 0) HQ.out (.slice (some ⟨b', o', none⟩) (d.px.length + (nd c).px.length) cap')
    rw [this]
    unfold Nd.obj joined Nd.pv
    simp
  refine .inr ⟨c, rfl, HC.out, Hit.out, Hict.out, ?_⟩
  obtain ⟨hT, hcase⟩ := HR.out
  rcases hcase with ⟨hroom, rfl, rfl, rfl, hC⟩ | ⟨hg, rfl, hcap, hT2, C, hC1, hC2, hC3⟩
  · refine .inl ⟨hroom, hobj, fun C fr h => ?_, (hT.mono (fun _ _ h => .inr h)).setCell _ _ (fun _ => .inl rfl)⟩
    obtain ⟨C', h1, h2, h3, h4⟩ := hC C fr h
    exact ⟨C', by rw [heap_set_ne (fun h => hcb h.symm)]; exact h1, h2, h3, h4⟩
  · have hcl := lt_of_heap Hc.out.obj
    exact .inr ⟨b', cap', C, hg, hcap, hobj, by rw [heap_set_ne (by omega)]; exact hC1, hC2, hC3, (hT2.mono (fun _ _ h => h.elim)).setCell _ _ (fun _ => rfl)⟩

theorem head_q (w : World) (cl : CL) (c : Nat) (hraw : CLraw w cl) (hc : cl.kids = [c]) :
    ∃ x, (x = none ∨ x = some c) ∧ ∀ n, Calls Try.prog (cl.fn 114 146) #[ptr cl.l] (w.drewN n) (RetD (optr x) (w.drewN n)) := by
  cases cl with
  | sp l a cap ks =>
    have : ks = [c] := hc
    subst this
    exact ⟨some c, .inr rfl, fun n => sp_head _ l a cap c (hraw.dr n)⟩
  | dn l a mn hi arr =>
    obtain ⟨x, hx⟩ : ∃ x, arr[hi]? = some x := ⟨_, List.getElem?_eq_getElem hraw.2.2.1⟩
    refine ⟨x, ?_, fun n => dn_head' _ l a mn hi arr x (hraw.dr n) hx⟩
    cases x with
    | none => exact .inl rfl
    | some d =>
      right
      have : d ∈ [c] := by rw [← hc]; show d ∈ arr.filterMap id; simp only [List.mem_filterMap, id]; exact ⟨some d, List.mem_of_getElem? hx, rfl⟩
      simp at this
      rw [this]

set_option maxHeartbeats 3200000 in
set_option maxRecDepth 100000 in
theorem compact_any (w : World) (p : Nat) (d : Nd) (nd : Nat → Nd) (h : HN w p d) (hnp : d.np = false) (hk : ∀ c, c ∈ d.cl.kids → HN w c (nd c) ∧ (nd c).np = false ∧ c ≠ p ∧ (nd c).px.length ≤ 1000 ∧ (nd c).px ≠ []) (hl : d.px.length ≤ 1000) :
    Calls Try.prog 68 #[ptr p] w (CompactP w p d nd) := by
  have hlen := len_q w d.cl h.raw
  have c0 := h.sl hnp
  have c1 := h.c1
  have c2 := h.c2
  have c4 := h.c4
  unfold CL.val at c4
  have m1 := m_length d.cl
  have m2 := f_length d.cl
  have m3 := m_head d.cl
  have m4 := f_head d.cl
  by_cases h1 : d.cl.kids.length = 1
  · obtain ⟨c, hc⟩ : ∃ c, d.cl.kids = [c] := List.length_eq_one_iff.1 h1
    obtain ⟨x, hx, hhead⟩ := head_q w d.cl c h.raw hc
    have g1 : ((d.cl.kids.length : Int) != 1) = false := by rw [bne_eq_false_iff_eq]; omega
    have HLEN := Lib.hid hlen
    have HHEAD := Lib.hid hhead
    have HC := Lib.hid hc
    clear hlen hhead
    rcases hx with rfl | rfl
    · clear hk
      go_enter Try.func68, Try.ntmps68
      go_wp2_with fail
      refine (HLEN.out 0).mono ?_
      rintro e w' ⟨rfl, n1, rfl⟩
      go_wp2_with fail
      refine (HHEAD.out _).mono ?_
      rintro e w' ⟨rfl, n2, rfl⟩
      go_wp2_with fail
      go_ret
      exact ret_self _ rfl
    · obtain ⟨hcN, hcnp, hcp, hcl, hcx⟩ := hk c (by rw [hc]; simp)
      have hcpos : 0 < (nd c).px.length := List.length_pos_iff.2 hcx
      have d0 := hcN.sl hcnp
      have d1 := hcN.c1
      have hpc : ¬ p = c := fun h => hcp h.symm
      have Hh := Lib.hid h
      have Hc := Lib.hid hcN
      have Hhn := Lib.hid hnp
      have Hcn := Lib.hid hcnp
      clear hk h hcN hnp hcnp h1 hc
      cases hit : d.it with
      | some v =>
        rw [hit] at c1
        simp only [itv] at c1
        have Hit := Lib.hid hit
        clear hit
        go_enter Try.func68, Try.ntmps68
        go_wp2_with fail
        refine (HLEN.out 0).mono ?_
        rintro e w' ⟨rfl, n1, rfl⟩
        go_wp2_with fail
        refine (HHEAD.out _).mono ?_
        rintro e w' ⟨rfl, n2, rfl⟩
        go_wp2_with fail
        go_ret
        exact ret_self _ rfl
      | none =>
        rw [hit] at c1
        simp only [itv] at c1
        have Hit := Lib.hid hit
        clear hit
        cases hict : (nd c).it with
        | some v =>
          rw [hict] at d1
          simp only [itv] at d1
          have Hict := Lib.hid hict
          clear hict
          go_enter Try.func68, Try.ntmps68
          go_wp2_with fail
          refine (HLEN.out 0).mono ?_
          rintro e w' ⟨rfl, n1, rfl⟩
          go_wp2_with fail
          refine (HHEAD.out _).mono ?_
          rintro e w' ⟨rfl, n2, rfl⟩
          go_wp2_with fail
          go_ret
          exact ret_self _ rfl
        | none =>
          rw [hict] at d1
          simp only [itv] at d1
          have Hict := Lib.hid hict
          clear hict
          have e1 : IntKind.i64.wrap ((d.px.length : Int) + ((nd c).px.length : Int)) = (d.px.length : Int) + ((nd c).px.length : Int) := IntWalk.i64_in _ (by omega)
          by_cases h5 : d.mp < (d.px.length : Int) + ((nd c).px.length : Int)
          · go_enter Try.func68, Try.ntmps68
            go_wp2_with fail
            refine (HLEN.out 0).mono ?_
            rintro e w' ⟨rfl, n1, rfl⟩
            go_wp2_with fail
            refine (HHEAD.out _).mono ?_
            rintro e w' ⟨rfl, n2, rfl⟩
            go_wp2_with fail
            go_quiet (fail)
            go_wp2_with fail
            go_ret
            exact ret_self' rfl ⟨_, World.drewN_drewN _ _ _⟩
          · go_enter Try.func68, Try.ntmps68
            go_wp2_with fail
            refine (HLEN.out 0).mono ?_
            rintro e w' ⟨rfl, n1, rfl⟩
            go_wp2_with fail
            refine (HHEAD.out _).mono ?_
            rintro e w' ⟨rfl, n2, rfl⟩
            go_wp2_with fail
            go_quiet (fail)
            go_wp2_with fail
            have hsrc := Hh.out.ks Hhn.out
            have hsrc2 := Hc.out.ks Hcn.out
            have HB := Hh.out.blk Hhn.out
            obtain ⟨C, fr, b1, b2, b3, _⟩ := HB
            have HBK : Hid (∃ (C : Array Value) (fr : Nat × Nat), w.heap[d.sb]? = some (.cells C 5 fr) ∧ d.so + d.sc ≤ C.size ∧ (∀ i, i < C.size → w.frozen? ⟨d.sb, i, none⟩ = false)) := (⟨C, fr, b1, b2, b3⟩ : ∃ (C : Array Value) (fr : Nat × Nat), w.heap[d.sb]? = some (.cells C 5 fr) ∧ d.so + d.sc ≤ C.size ∧ (∀ i, i < C.size → w.frozen? ⟨d.sb, i, none⟩ = false))
            have HS1 := Lib.hid hsrc
            have HS2 := Lib.hid hsrc2
            have hcb : c ≠ d.sb := ne_of_type Hc.out.obj b1 (by decide)
            have HCO := Lib.hid Hc.out.obj
            have hpb : p ≠ d.sb := ne_of_type Hh.out.obj b1 (by decide)
            have HPO := Lib.hid Hh.out.obj
            have HP1 : Hid (#[d.pv, itv d.it, .int .i64 d.mp, .int .i64 d.mc, d.cl.val][1]? = some Value.nilIface) := by show some (itv d.it) = _; rw [Hit.out]; rfl
            clear hsrc hsrc2 b1 b2 b3 m1 m2 m3 m4 e1
            go_region_law (refine step_append_bytes rfl (.tmp 54) (.tmp 58) rfl w ⟨rfl, rfl, rfl, rfl⟩ d.sb d.so d.px.length d.sc rfl d.px rfl (nd c).sb (nd c).so (nd c).px.length (nd c).sc rfl (nd c).px rfl (by omega) HS1.out HS2.out HBK.out (by omega) ?_; intro b' o' cap' w' hR; have q1 : w'.heap[c]? = some (nd c).obj := (hR.1.keep c (lt_of_heap HCO.out) hcb).trans HCO.out; have q2 : w'.cell? ⟨c, 0, none⟩ = some (nd c).pv := (by rw [cell_of_block q1]; rfl); have q3 := free_of_block q1 0; have q4 : w'.cell? ⟨p, 1, none⟩ = some .nilIface := (by rw [cell_of_block ((hR.1.keep p (lt_of_heap HPO.out) hpb).trans HPO.out)]; exact HP1.out); have HR := Lib.hid hR; have HQ := Lib.hid q1; clear hR q1)
            go_wp2_with fail
            all_goals
              go_ret
              exact join_post HC Hit Hict Hc Hcn HBK HR HQ hcb
  · have g1 : ((d.cl.kids.length : Int) != 1) = true := by rw [bne_iff_ne]; omega
    have HLEN := Lib.hid hlen
    clear hlen hk
    go_enter Try.func68, Try.ntmps68
    go_wp2_with fail
    refine (HLEN.out 0).mono ?_
    rintro e w' ⟨rfl, n1, rfl⟩
    go_wp2_with fail
    go_ret
    exact ret_self _ rfl

end Go.Proofs.Ytmdbnjepajifpaa
