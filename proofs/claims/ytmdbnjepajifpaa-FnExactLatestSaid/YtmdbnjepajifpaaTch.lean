/- What a call may have turned: a set of old blocks; all other old blocks are as they were. -/
import Derived.Test.YtmdbnjepajifpaaFind
import Derived.Laws.CopyOwn
namespace Go.Proofs.Ytmdbnjepajifpaa
open Go.RowKit

structure Tch (w w' : World) (T : Nat → Prop) : Prop where
  os : w'.os = w.os
  tape : w'.tape = w.tape
  output : w'.output = w.output
  size : w.heap.size ≤ w'.heap.size
  keep : ∀ k, k < w.heap.size → ¬ T k → w'.heap[k]? = w.heap[k]?

section
variable {w w1 w2 : World} {T U : Nat → Prop}
theorem Tch.refl (w : World) (T : Nat → Prop) : Tch w w T := ⟨rfl, rfl, rfl, Nat.le_refl _, fun _ _ _ => rfl⟩
theorem Tch.dr (n : Nat) : Tch w (w.drewN n) T := ⟨rfl, rfl, rfl, Nat.le_refl _, fun _ _ _ => rfl⟩
theorem Tch.trans (h : Tch w w1 T) (k : Tch w1 w2 U) (hu : ∀ b, b < w.heap.size → U b → T b) : Tch w w2 T :=
  ⟨k.os.trans h.os, k.tape.trans h.tape, k.output.trans h.output, Nat.le_trans h.size k.size, fun b hb hn => (k.keep b (Nat.lt_of_lt_of_le hb h.size) (fun hu' => hn (hu b hb hu'))).trans (h.keep b hb hn)⟩
theorem Tch.mono (h : Tch w w1 T) (hu : ∀ b, b < w.heap.size → T b → U b) : Tch w w1 U := ⟨h.os, h.tape, h.output, h.size, fun b hb hn => h.keep b hb (fun ht => hn (hu b hb ht))⟩
theorem Tch.drn (h : Tch w w1 T) (n : Nat) : Tch w (w1.drewN n) T := ⟨h.os, h.tape, h.output, h.size, h.keep⟩
theorem Tch.drw (h : Tch w w1 T) : Tch w w1.drew T := ⟨h.os, h.tape, h.output, h.size, h.keep⟩
theorem Tch.alloc (h : Tch w w1 T) (o : Obj) : Tch w (w1.alloc o) T :=
  h.trans (U := T) ⟨rfl, rfl, rfl, by simp, fun k hk _ => Below.heap_alloc _ _ _ hk⟩ (fun _ _ h => h)
theorem Tch.setCell (h : Tch w w1 T) (p : Addr) (u : Value) (hp : p.block < w.heap.size → T p.block) : Tch w (w1.setCell p u) T :=
  h.trans (U := fun k => k = p.block) ⟨rfl, rfl, rfl, by simp, fun k _ hn => Below.heap_setCell _ _ _ _ hn⟩ (fun b hb e => by subst e; exact hp hb)
theorem Tch.grown (h : Tch w w1 T) {row : Option Nat} (hg : w1.grownBy w2 row) (hp : ∀ b, row = some b → b < w.heap.size → T b) : Tch w w2 T :=
  h.trans (U := fun k => some k = row) ⟨hg.os, hg.tape, hg.output, hg.size, fun k hk hn => hg.block k hk hn⟩ (fun b hb e => hp b e.symm hb)
theorem Tch.lt (h : Tch w w1 T) {b : Nat} (hb : b < w.heap.size) : b < w1.heap.size := Nat.lt_of_lt_of_le hb h.size
theorem Tch.below (h : Tch w w1 T) {B : Nat} (hB : ∀ b, b < w.heap.size → T b → B ≤ b) (hw : B ≤ w.heap.size) : Below B w w1 :=
  ⟨h.os, h.tape, h.output, h.size, fun k hk => h.keep k (by omega) (fun ht => by have := hB k (by omega) ht; omega)⟩
end

theorem lt_of_heap {w : World} {b : Nat} {o : Obj} (h : w.heap[b]? = some o) : b < w.heap.size := (Array.getElem?_eq_some_iff.1 h).1

/-! a block behind a store -/
theorem heap_set {w : World} {b i : Nat} {C : Array Value} {t : TypeId} {fr : Nat × Nat} (h : w.heap[b]? = some (.cells C t fr)) (v : Value) :
    (w.setCell ⟨b, i, none⟩ v).heap[b]? = some (.cells (C.setIfInBounds i v) t fr) := by
  simp [World.setCell, Array.getElem?_modify, h]
theorem heap_set_ne {w : World} {b i k : Nat} (h : k ≠ b) (v : Value) : (w.setCell ⟨b, i, none⟩ v).heap[k]? = w.heap[k]? := Below.heap_setCell _ _ _ _ h
theorem heap_al {w : World} {k : Nat} {o x : Obj} (h : w.heap[k]? = some x) : (w.alloc o).heap[k]? = some x := by
  rw [Below.heap_alloc _ _ _ (lt_of_heap h)]; exact h
theorem heap_new (w : World) (o : Obj) : (w.alloc o).heap[w.heap.size]? = some o := heap_alloc_new w o
theorem ne_of_type {w : World} {a b : Nat} {C D : Array Value} {t u : TypeId} {f g : Nat × Nat} (h : w.heap[a]? = some (.cells C t f)) (k : w.heap[b]? = some (.cells D u g)) (hne : t ≠ u) : a ≠ b := by
  intro e
  subst e
  rw [h] at k
  injection k with k
  injection k with _ k _
  exact hne k
theorem ne_of_lt {w : World} {a : Nat} {o : Obj} (h : w.heap[a]? = some o) : a ≠ w.heap.size := Nat.ne_of_lt (lt_of_heap h)

end Go.Proofs.Ytmdbnjepajifpaa
