/- What a node is in a later world: the blocks on which it hangs. -/
import Derived.Test.YtmdbnjepajifpaaTA
namespace Go.Proofs.Ytmdbnjepajifpaa
open Go.RowKit

def CL.sty : CL → Nat
  | .sp _ _ _ _ => 105
  | .dn _ _ _ _ _ => 147

theorem CLraw.l_ty {w : World} {cl : CL} (h : CLraw w cl) : ∃ C, w.heap[cl.l]? = some (.cells C cl.sty (0, 0)) := by
  cases cl with
  | sp l a cap ks => exact ⟨_, h.1⟩
  | dn l a mn hi arr => exact ⟨_, h.1⟩
theorem CLraw.a_ty {w : World} {cl : CL} (h : CLraw w cl) : ∃ C, w.heap[cl.a]? = some (.cells C 50 (0, 0)) := by
  cases cl with
  | sp l a cap ks => obtain ⟨_, _, _, C, h, _⟩ := h; exact ⟨C, h⟩
  | dn l a mn hi arr => exact ⟨_, h.2.2.2.2⟩
theorem CL.sty_ne (cl : CL) : cl.sty ≠ 82 ∧ cl.sty ≠ 50 ∧ cl.sty ≠ 5 := by cases cl <;> simp [CL.sty]

theorem CLraw.frame {w w' : World} {cl : CL} (h : CLraw w cl) (e1 : w'.heap[cl.l]? = w.heap[cl.l]?) (e2 : w'.heap[cl.a]? = w.heap[cl.a]?) : CLraw w' cl := by
  cases cl with
  | sp l a cap ks =>
    obtain ⟨h1, h2, h3, C, h4, h5⟩ := h
    exact ⟨e1.trans h1, h2, h3, C, e2.trans h4, h5⟩
  | dn l a mn hi arr =>
    obtain ⟨h1, h2, h3, h4, h5⟩ := h
    exact ⟨e1.trans h1, h2, h3, h4, e2.trans h5⟩

theorem frozen_same {w w' : World} {b : Nat} (h : w'.heap[b]? = w.heap[b]?) (i : Nat) : w'.frozen? ⟨b, i, none⟩ = w.frozen? ⟨b, i, none⟩ := by simp [World.frozen?, h]

theorem HN.frame {w w' : World} {p : Nat} {d : Nd} (h : HN w p d) (e0 : w'.heap[p]? = w.heap[p]?) (e1 : w'.heap[d.cl.l]? = w.heap[d.cl.l]?) (e2 : w'.heap[d.cl.a]? = w.heap[d.cl.a]?) (e3 : w'.heap[d.sb]? = w.heap[d.sb]?) : HN w' p d := by
  refine ⟨e0.trans h.obj, h.raw.frame e1 e2, h.le, fun hn => ?_⟩
  obtain ⟨C, fr, h1, h2, h3, h4⟩ := h.blk hn
  exact ⟨C, fr, e3.trans h1, h2, fun i hi => by rw [frozen_same e3]; exact h3 i hi, h4⟩

/-- The same, the block of bytes written, but not where the node's bytes lie. -/
theorem HN.frameB {w w' : World} {p : Nat} {d : Nd} (h : HN w p d) (e0 : w'.heap[p]? = w.heap[p]?) (e1 : w'.heap[d.cl.l]? = w.heap[d.cl.l]?) (e2 : w'.heap[d.cl.a]? = w.heap[d.cl.a]?)
    (e3 : ∀ C fr, w.heap[d.sb]? = some (.cells C 5 fr) → ∃ C', w'.heap[d.sb]? = some (.cells C' 5 fr) ∧ C'.size = C.size ∧ ∀ i, i < d.px.length → C'[d.so + i]? = C[d.so + i]?) : HN w' p d := by
  refine ⟨e0.trans h.obj, h.raw.frame e1 e2, h.le, fun hn => ?_⟩
  obtain ⟨C, fr, h1, h2, h3, h4⟩ := h.blk hn
  obtain ⟨C', g1, g2, g3⟩ := e3 C fr h1
  refine ⟨C', fr, g1, by omega, fun i hi => ?_, fun i hi => by rw [g3 i hi]; exact h4 i hi⟩
  have := h3 i (by omega)
  simp only [World.frozen?, h1] at this
  simp only [World.frozen?, g1]
  exact this

section
variable {root : Nat} {N : Nat → Prop} {nd : Nat → Nd} {wd : Nat → List UInt8} {S : Nat → List UInt8} {sh : Nat → Nat} {w : World}
/-- Two nodes' blocks of different kinds are different blocks. -/
theorem TR.l_ne (T : TR w root N nd wd S sh) {p q : Nat} (hp : N p) (hq : N q) : (nd p).cl.l ≠ q := by
  obtain ⟨C, h⟩ := (T.H p hp).raw.l_ty
  exact ne_of_type h (T.H q hq).obj (CL.sty_ne _).1
theorem TR.a_ne (T : TR w root N nd wd S sh) {p q : Nat} (hp : N p) (hq : N q) : (nd p).cl.a ≠ q := by
  obtain ⟨C, h⟩ := (T.H p hp).raw.a_ty
  exact ne_of_type h (T.H q hq).obj (by decide)
theorem TR.s_ne (T : TR w root N nd wd S sh) {p q : Nat} (hp : N p) (hq : N q) : (nd p).sb ≠ q := by
  obtain ⟨C, fr, h, _⟩ := (T.H p hp).blk (T.np hp)
  exact ne_of_type h (T.H q hq).obj (by decide)
theorem TR.la_ne (T : TR w root N nd wd S sh) {p q : Nat} (hp : N p) (hq : N q) : (nd p).cl.l ≠ (nd q).cl.a := by
  obtain ⟨C, h⟩ := (T.H p hp).raw.l_ty
  obtain ⟨D, k⟩ := (T.H q hq).raw.a_ty
  exact ne_of_type h k (CL.sty_ne _).2.1
theorem TR.sl_ne (T : TR w root N nd wd S sh) {p q : Nat} (hp : N p) (hq : N q) : (nd p).sb ≠ (nd q).cl.l := by
  obtain ⟨C, fr, h, _⟩ := (T.H p hp).blk (T.np hp)
  obtain ⟨D, k⟩ := (T.H q hq).raw.l_ty
  exact ne_of_type h k (CL.sty_ne _).2.2.symm
theorem TR.sa_ne (T : TR w root N nd wd S sh) {p q : Nat} (hp : N p) (hq : N q) : (nd p).sb ≠ (nd q).cl.a := by
  obtain ⟨C, fr, h, _⟩ := (T.H p hp).blk (T.np hp)
  obtain ⟨D, k⟩ := (T.H q hq).raw.a_ty
  exact ne_of_type h k (by decide)
end

/-- The map with an item set at a node. -/
theorem Cont.setItem {N : Nat → Prop} {nd : Nat → Nd} {wd : Nat → List UInt8} {M : List UInt8 → Option Int} (C : Cont N nd wd M) (hinj : ∀ p q, N p → N q → wd p = wd q → q = p) {q : Nat} (hq : N q) (i : Option Int) :
    Cont N (upd nd q { nd q with it := i }) wd (setM M (wd q) i) := by
  refine ⟨fun p hp => ?_, fun k hk => ?_⟩
  · by_cases h : p = q
    · subst h; rw [upd_self]; simp [setM]
    · rw [upd_ne _ _ h]
      have : wd p ≠ wd q := fun e => h (hinj q p hq hp e.symm)
      simp only [setM, if_neg this]
      exact C.at_ p hp
  · by_cases h : k = wd q
    · exact ⟨q, hq, h.symm⟩
    · simp only [setM, if_neg h] at hk
      exact C.of k hk

/-- An item stored into a node's second cell. -/
theorem TA.setItem {w w' : World} {t : Nat} {mp : Int} {rp : List UInt8} {M : List UInt8 → Option Int} {O : Nat → Prop} {N : Nat → Prop} {nd : Nat → Nd} {wd : Nat → List UInt8} {S : Nat → List UInt8} {sh : Nat → Nat}
    (A : TA w t mp rp M O N nd wd S sh) {q : Nat} (hq : N q) (i : Option Int) (hw : w'.heap = (w.setCell ⟨q, 1, none⟩ (itv i)).heap) :
    TA w' t mp rp (setM M (wd q) i) O N (upd nd q { nd q with it := i }) wd S sh := by
  have hk : ∀ k, k ≠ q → w'.heap[k]? = w.heap[k]? := fun k h => by rw [hw]; exact heap_set_ne h _
  have e : ∀ p, (upd nd q { nd q with it := i } p).np = (nd p).np ∧ (upd nd q { nd q with it := i } p).sb = (nd p).sb ∧ (upd nd q { nd q with it := i } p).cl = (nd p).cl ∧ (upd nd q { nd q with it := i } p).mp = (nd p).mp ∧ (upd nd q { nd q with it := i } p).px = (nd p).px := by
    intro p
    by_cases h : p = q
    · subst h; rw [upd_self]; exact ⟨rfl, rfl, rfl, rfl, rfl⟩
    · rw [upd_ne _ _ h]; exact ⟨rfl, rfl, rfl, rfl, rfl⟩
  refine ⟨⟨A.T.I.setItem q i, fun p hp => ?_, by rw [(e t).1]; exact A.T.rn⟩, A.C.setItem (fun p r hp hr h => A.T.I.inj hp hr h) hq i, fun p hp => by rw [(e p).2.1, (e p).2.2.1]; exact A.own p hp, fun k h => ?_, by rw [(e t).2.2.2.1]; exact A.mp, by rw [(e t).2.2.2.2]; exact A.rp⟩
  · have hl := hk _ (A.T.l_ne hp hq)
    have ha := hk _ (A.T.a_ne hp hq)
    have hs := hk _ (A.T.s_ne hp hq)
    by_cases h : p = q
    · subst h
      rw [upd_self]
      have hN := A.T.H p hp
      refine ⟨?_, hN.raw.frame hl ha, hN.le, fun hn => ?_⟩
      · rw [hw]
        rw [heap_set hN.obj]
        rfl
      · obtain ⟨C, fr, h1, h2, h3, h4⟩ := hN.blk hn
        exact ⟨C, fr, hs.trans h1, h2, fun i hi => by rw [frozen_same hs]; exact h3 i hi, h4⟩
    · rw [upd_ne _ _ h]
      exact (A.T.H p hp).frame (hk p h) hl ha hs
  · have := A.lt k h
    rw [hw]; simpa using this

theorem LfX.setItem {m : Nat} {N : Nat → Prop} {nd : Nat → Nd} {q : Nat} (h : LfX m N nd q) (i : Option Int) (hi : i ≠ none ∨ m ≤ (nd q).cl.kids.length) : Lf m N (upd nd q { nd q with it := i }) := by
  intro p hp
  by_cases e : p = q
  · subst e; rw [upd_self]; exact hi
  · rw [upd_ne _ _ e]; exact h p hp e

end Go.Proofs.Ytmdbnjepajifpaa
