/- A node's list of children in memory: sparse or dense; the first byte of a node's part of a key. Definitions and the facts on single cells that they give. -/
import Derived.Test.YtmdbnjepajifpaaLcp
namespace Go.Proofs.Ytmdbnjepajifpaa
open Go.RowKit

/-- A pointer to the head of block p. -/
@[reducible] def ptr (p : Nat) : Value := .pointer (some ⟨p, 0, none⟩)
def optr : Option Nat → Value
  | some p => ptr p
  | none => .pointer none
@[simp, go_sem] theorem optr_some (p : Nat) : optr (some p) = .pointer (some ⟨p, 0, none⟩) := rfl
@[simp, go_sem] theorem optr_none : optr none = .pointer none := rfl

/-- A list of children: sparse (its struct, its array, the capacity, the children in their order) or dense (its struct, its array, the least byte, the head's index, the places). -/
inductive CL
  | sp (l a cap : Nat) (ks : List Nat)
  | dn (l a mn hi : Nat) (arr : List (Option Nat))

def CL.kids : CL → List Nat
  | .sp _ _ _ ks => ks
  | .dn _ _ _ _ arr => arr.filterMap id
def CL.l : CL → Nat
  | .sp l _ _ _ => l
  | .dn l _ _ _ _ => l
def CL.a : CL → Nat
  | .sp _ a _ _ => a
  | .dn _ a _ _ _ => a
def CL.ty : CL → Nat
  | .sp _ _ _ _ => 102
  | .dn _ _ _ _ _ => 145
def CL.val (c : CL) : Value := .iface c.ty (ptr c.l)

/-- The blocks of a list of children. -/
def CLraw (w : World) : CL → Prop
  | .sp l a cap ks => w.heap[l]? = some (.cells #[.slice (some ⟨a, 0, none⟩) ks.length cap] 105 (0, 0)) ∧ ks.length ≤ cap ∧ cap ≤ 1000 ∧
      ∃ C : Array Value, w.heap[a]? = some (.cells C 50 (0, 0)) ∧ C.size = cap ∧ ∀ (i c : Nat), ks[i]? = some c → C[i]? = some (ptr c)
  | .dn l a mn hi arr => w.heap[l]? = some (.cells #[.int .i64 mn, .int .i64 ((mn : Int) + arr.length - 1), .int .i64 (arr.filterMap id).length, .int .i64 hi, .slice (some ⟨a, 0, none⟩) arr.length arr.length] 147 (0, 0)) ∧
      mn + arr.length ≤ 256 ∧ hi < arr.length ∧ (∀ j, j < hi → arr[j]? = some none) ∧ w.heap[a]? = some (.cells (arr.map optr).toArray 50 (0, 0))

/-- The first byte of node p's part of a key is b, and can be read. -/
def FB (w : World) (p : Nat) (b : UInt8) : Prop :=
  ∃ sb so n c, w.cell? ⟨p, 0, none⟩ = some (.slice (some ⟨sb, so, none⟩) n c) ∧ 0 < n ∧ w.cell? ⟨sb, so, none⟩ = some (.int .u8 (b.toNat : Int))

/-- In a dense list a child stands at its byte's place. -/
def CL.placed (fb : Nat → UInt8) : CL → Prop
  | .sp _ _ _ _ => True
  | .dn _ _ mn _ arr => ∀ (i c : Nat), arr[i]? = some (some c) → (fb c).toNat = mn + i

/-- The children's first bytes can be read, and are distinct. -/
structure KB (w : World) (fb : Nat → UInt8) (cl : CL) : Prop where
  rd : ∀ c, c ∈ cl.kids → FB w c (fb c)
  ne : ∀ c d, c ∈ cl.kids → d ∈ cl.kids → fb c = fb d → c = d
  nodup : cl.kids.Nodup
  placed : cl.placed fb

theorem cell_of_block {w : World} {b : Nat} {C : Array Value} {t : TypeId} {fr : Nat × Nat} (h : w.heap[b]? = some (.cells C t fr)) (i : Nat) : w.cell? ⟨b, i, none⟩ = C[i]? := by
  simp [World.cell?, h]

theorem free_of_block {w : World} {b : Nat} {C : Array Value} {t : TypeId} (h : w.heap[b]? = some (.cells C t (0, 0))) (i : Nat) : w.frozen? ⟨b, i, none⟩ = false := by
  simp [World.frozen?, h]

theorem drop_at {α : Type} {l : List α} {k : Nat} {c : α} (h : l[k]? = some c) : l.drop k = c :: l.drop (k + 1) := by
  obtain ⟨hk, rfl⟩ := List.getElem?_eq_some_iff.1 h
  exact List.drop_eq_getElem_cons hk

theorem find_here {l : List Nat} {k c : Nat} {fb : Nat → UInt8} {b : UInt8} (h : l[k]? = some c) (hb : fb c = b) : (l.drop k).find? (fun c => fb c == b) = some c := by
  rw [drop_at h]; simp [hb]

theorem find_on {l : List Nat} {k c : Nat} {fb : Nat → UInt8} {b : UInt8} (h : l[k]? = some c) (hb : ¬ fb c = b) : (l.drop k).find? (fun c => fb c == b) = (l.drop (k + 1)).find? (fun c => fb c == b) := by
  rw [drop_at h]; simp [hb]

/-- The child that begins with byte b. -/
def CL.child (fb : Nat → UInt8) (cl : CL) (b : UInt8) : Option Nat := cl.kids.find? (fun c => fb c == b)

end Go.Proofs.Ytmdbnjepajifpaa
