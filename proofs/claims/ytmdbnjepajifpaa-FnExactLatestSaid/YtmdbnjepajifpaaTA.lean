/- A trie in memory, as the map that it stands for. -/
import Derived.Test.YtmdbnjepajifpaaScope
namespace Go.Proofs.Ytmdbnjepajifpaa
open Go.RowKit

structure Cont (N : Nat → Prop) (nd : Nat → Nd) (wd : Nat → List UInt8) (M : List UInt8 → Option Int) : Prop where
  at_ : ∀ p, N p → M (wd p) = (nd p).it
  of : ∀ k, M k ≠ none → ∃ p, N p ∧ wd p = k

/-- A trie at block t: its numbers and first part of a key (mp, rp), its map M; all its blocks are in O. -/
structure TA (w : World) (t : Nat) (mp : Int) (rp : List UInt8) (M : List UInt8 → Option Int) (O : Nat → Prop)
    (N : Nat → Prop) (nd : Nat → Nd) (wd : Nat → List UInt8) (S : Nat → List UInt8) (sh : Nat → Nat) : Prop where
  T : TR w t N nd wd S sh
  C : Cont N nd wd M
  own : ∀ p, N p → O p ∧ O (nd p).cl.l ∧ O (nd p).cl.a ∧ O (nd p).sb
  lt : ∀ k, O k → k < w.heap.size
  mp : (nd t).mp = mp
  rp : (nd t).px = rp

/-- Each node has an item or at least m children. -/
def Lf (m : Nat) (N : Nat → Prop) (nd : Nat → Nd) : Prop := ∀ p, N p → (nd p).it ≠ none ∨ m ≤ (nd p).cl.kids.length
/-- The same, but for q. -/
def LfX (m : Nat) (N : Nat → Prop) (nd : Nat → Nd) (q : Nat) : Prop := ∀ p, N p → p ≠ q → (nd p).it ≠ none ∨ m ≤ (nd p).cl.kids.length
theorem Lf.x {m : Nat} {N : Nat → Prop} {nd : Nat → Nd} (h : Lf m N nd) (q : Nat) : LfX m N nd q := fun p hp _ => h p hp
theorem Lf.mono {m n : Nat} {N : Nat → Prop} {nd : Nat → Nd} (h : Lf m N nd) (hn : n ≤ m) : Lf n N nd := fun p hp => (h p hp).imp id (fun h => by omega)

def TrieAt (w : World) (t : Nat) (lf : Nat) (mp : Int) (rp : List UInt8) (M : List UInt8 → Option Int) (O : Nat → Prop) : Prop :=
  ∃ N nd wd S sh, TA w t mp rp M O N nd wd S sh ∧ Lf lf N nd

theorem TA.dr {w : World} {t : Nat} {mp : Int} {rp : List UInt8} {M : List UInt8 → Option Int} {O : Nat → Prop} {N : Nat → Prop} {nd : Nat → Nd} {wd : Nat → List UInt8} {S : Nat → List UInt8} {sh : Nat → Nat}
    (A : TA w t mp rp M O N nd wd S sh) (n : Nat) : TA (w.drewN n) t mp rp M O N nd wd S sh := ⟨⟨A.T.I, fun p hp => (A.T.H p hp).dr n, A.T.rn⟩, A.C, A.own, A.lt, A.mp, A.rp⟩

/-- A block of bytes that holds the key. -/
def KeyAt (w : World) (kb kc : Nat) (K : List UInt8) : Prop :=
  KS w kb 0 K ∧ K.length ≤ kc ∧ ∃ (C : Array Value) (fr : Nat × Nat), w.heap[kb]? = some (.cells C 5 fr) ∧ kc ≤ C.size ∧ (∀ i, i < C.size → w.frozen? ⟨kb, i, none⟩ = false)

/-- The map with a key set. -/
def setM (M : List UInt8 → Option Int) (K : List UInt8) (v : Option Int) : List UInt8 → Option Int := fun k => if k = K then v else M k

/-- What put leaves. -/
def PutP (w : World) (t : Nat) (lf : Nat) (M : List UInt8 → Option Int) (O : Nat → Prop) (K : List UInt8) (i : Int) (rep : Bool) (kb : Nat) (e : Ending) (w' : World) : Prop :=
  e = .returned (.bool (rep || (M K).isNone)) ∧ ∃ O' rp', TrieAt w' t lf 10 rp' (if rep || (M K).isNone then setM M K (some i) else M) O' ∧
    (∀ k, O' k → O k ∨ k = kb ∨ (w.heap.size ≤ k ∧ k < w'.heap.size)) ∧ Tch w w' O

end Go.Proofs.Ytmdbnjepajifpaa
