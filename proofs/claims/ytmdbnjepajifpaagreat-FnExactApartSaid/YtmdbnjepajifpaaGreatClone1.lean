/- A trie's copy: what is known of the nodes copied so far. -/
import Derived.Test.YtmdbnjepajifpaaGreatC8
import Derived.Test.YtmdbnjepajifpaaGreatC2
set_option linter.unusedVariables false
set_option linter.unusedSimpArgs false
namespace Go.Proofs.YtmdbnjepajifpaaGreat
open Go.RowKit

/-- A list of children and its copy: the same numbers, the children's copies. -/
def ClC (cn : Nat → Nat) : CL → CL → Prop
  | .sp _ _ cap ks, .sp _ _ cap' ks' => cap' = cap ∧ ks' = ks.map cn
  | .dn _ _ mn hi arr, .dn _ _ mn' hi' arr' => mn' = mn ∧ hi' = hi ∧ arr' = arr.map (Option.map cn)
  | _, _ => False

theorem fm_map (cn : Nat → Nat) : ∀ arr : List (Option Nat), (arr.map (Option.map cn)).filterMap id = (arr.filterMap id).map cn
  | [] => rfl
  | none :: r => by simpa using fm_map cn r
  | some x :: r => by simpa using fm_map cn r
theorem mem_fm {arr : List (Option Nat)} {c : Nat} : c ∈ arr.filterMap id ↔ some c ∈ arr := by simp

theorem ClC.kids {cn : Nat → Nat} {cl cl' : CL} (h : ClC cn cl cl') : cl'.kids = cl.kids.map cn := by
  cases cl <;> cases cl' <;> simp only [ClC] at h
  · exact h.2
  · obtain ⟨_, _, rfl⟩ := h; exact fm_map cn _
theorem ClC.congr {cn cn' : Nat → Nat} {cl cl' : CL} (h : ClC cn cl cl') (e : ∀ c, c ∈ cl.kids → cn' c = cn c) : ClC cn' cl cl' := by
  cases cl <;> cases cl' <;> simp only [ClC] at h ⊢
  · refine ⟨h.1, ?_⟩
    rw [h.2]
    exact List.map_congr_left (fun c hc => (e c hc).symm)
  · refine ⟨h.1, h.2.1, ?_⟩
    rw [h.2.2]
    refine List.map_congr_left (fun o ho => ?_)
    cases o with
    | none => rfl
    | some c => simp only [Option.map_some]; rw [e c (mem_fm.2 ho)]
theorem ClC.placed {cn : Nat → Nat} {cl cl' : CL} {fb fb' : Nat → UInt8} (h : ClC cn cl cl') (hp : cl.placed fb) (e : ∀ c, c ∈ cl.kids → fb' (cn c) = fb c) : cl'.placed fb' := by
  cases cl <;> cases cl' <;> simp only [ClC] at h
  · trivial
  · obtain ⟨rfl, _, rfl⟩ := h
    intro i c hc
    rw [List.getElem?_map] at hc
    cases ho : (_ : List (Option Nat))[i]? with
    | none => rw [ho] at hc; cases hc
    | some o =>
      rw [ho] at hc
      cases o with
      | none => cases hc
      | some d =>
        simp only [Option.map_some, Option.some.injEq] at hc
        subst hc
        rw [e d (mem_fm.2 (List.mem_of_getElem? ho))]
        exact hp i d ho

/-- A node that has been copied: its copy at cn x, as cd x tells. -/
structure Cl1 (W : World) (lo : Nat) (nd : Nat → Nd) (cn : Nat → Nat) (cd : Nat → Nd) (x : Nat) : Prop where
  hn : HN W (cn x) (cd x)
  px : (cd x).px = (nd x).px
  it : (cd x).it = (nd x).it
  mp : (cd x).mp = (nd x).mp
  so : (cd x).so = 0
  np : (cd x).np = true → (nd x).px = [] ∧ (cd x).sb = cn x
  cl : ClC cn (nd x).cl (cd x).cl
  ge : lo ≤ cn x ∧ lo ≤ (cd x).cl.l ∧ lo ≤ (cd x).cl.a ∧ lo ≤ (cd x).sb

section
variable {W W' : World} {lo : Nat} {nd : Nat → Nd} {cn cn' cn2 : Nat → Nat} {cd cd' cd2 : Nat → Nd} {x y : Nat} {P Q : Nat → Prop}

theorem Cl1.lt (h : Cl1 W lo nd cn cd x) : cn x < W.heap.size ∧ (cd x).cl.l < W.heap.size ∧ (cd x).cl.a < W.heap.size ∧ (cd x).sb < W.heap.size := by
  obtain ⟨C, h1⟩ := h.hn.raw.l_ty
  obtain ⟨D, h2⟩ := h.hn.raw.a_ty
  refine ⟨lt_of_heap h.hn.obj, lt_of_heap h1, lt_of_heap h2, ?_⟩
  cases hn : (cd x).np with
  | true => rw [(h.np hn).2]; exact lt_of_heap h.hn.obj
  | false =>
    obtain ⟨C, fr, h3, _⟩ := h.hn.blk hn
    exact lt_of_heap h3

theorem Cl1.frame (h : Cl1 W lo nd cn cd x) (hk : ∀ k, lo ≤ k → k < W.heap.size → W'.heap[k]? = W.heap[k]?) : Cl1 W' lo nd cn cd x := by
  obtain ⟨g1, g2, g3, g4⟩ := h.ge
  obtain ⟨l1, l2, l3, l4⟩ := h.lt
  exact ⟨h.hn.frame (hk _ g1 l1) (hk _ g2 l2) (hk _ g3 l3) (hk _ g4 l4), h.px, h.it, h.mp, h.so, h.np, h.cl, h.ge⟩

theorem Cl1.congr (h : Cl1 W lo nd cn cd x) (e1 : cn' x = cn x) (e2 : cd' x = cd x) (e3 : ∀ c, c ∈ (nd x).cl.kids → cn' c = cn c) : Cl1 W lo nd cn' cd' x := by
  obtain ⟨h1, h2, h3, h4, h5, h6, h7, h8⟩ := h
  exact ⟨by rw [e1, e2]; exact h1, by rw [e2]; exact h2, by rw [e2]; exact h3, by rw [e2]; exact h4, by rw [e2]; exact h5, by rw [e1, e2]; exact h6, by rw [e2]; exact h7.congr e3, by rw [e1, e2]; exact h8⟩

theorem Cl1.low {lo' : Nat} (h : Cl1 W lo nd cn cd x) (hl : lo' ≤ lo) : Cl1 W lo' nd cn cd x :=
  ⟨h.hn, h.px, h.it, h.mp, h.so, h.np, h.cl, by obtain ⟨a, b, c, d⟩ := h.ge; exact ⟨by omega, by omega, by omega, by omega⟩⟩

/-- The nodes of P have been copied, to blocks from lo on. -/
structure ClS (W : World) (lo : Nat) (P : Nat → Prop) (nd : Nat → Nd) (cn : Nat → Nat) (cd : Nat → Nd) : Prop where
  one : ∀ x, P x → Cl1 W lo nd cn cd x
  sn : ∀ x y, P x → P y → cn x = cn y → x = y
  sl : ∀ x y, P x → P y → (cd x).cl.l = (cd y).cl.l → x = y
  sa : ∀ x y, P x → P y → (cd x).cl.a = (cd y).cl.a → x = y
  sb : ∀ x y, P x → P y → (cd x).np = false → (cd y).np = false → (cd x).sb = (cd y).sb → x = y

theorem ClS.frame (h : ClS W lo P nd cn cd) (hk : ∀ k, lo ≤ k → k < W.heap.size → W'.heap[k]? = W.heap[k]?) : ClS W' lo P nd cn cd :=
  ⟨fun x hx => (h.one x hx).frame hk, h.sn, h.sl, h.sa, h.sb⟩
theorem ClS.later (h : ClS W lo P nd cn cd) (hT : Tch W W' (fun _ => False)) : ClS W' lo P nd cn cd := h.frame (fun k _ hk => hT.keep k hk (fun h => h))
theorem ClS.of (h : ClS W lo P nd cn cd) (hQ : ∀ x, Q x → P x) : ClS W lo Q nd cn cd :=
  ⟨fun x hx => h.one x (hQ x hx), fun x y hx hy => h.sn x y (hQ x hx) (hQ y hy), fun x y hx hy => h.sl x y (hQ x hx) (hQ y hy), fun x y hx hy => h.sa x y (hQ x hx) (hQ y hy), fun x y hx hy => h.sb x y (hQ x hx) (hQ y hy)⟩
theorem ClS.none : ClS W lo (fun _ => False) nd cn cd := ⟨fun _ h => h.elim, fun _ _ h => h.elim, fun _ _ h => h.elim, fun _ _ h => h.elim, fun _ _ h => h.elim⟩

open Classical in
noncomputable def mix {α : Type} (Q : Nat → Prop) (f g : Nat → α) : Nat → α := fun x => if Q x then g x else f x
theorem mix_in {α : Type} {Q : Nat → Prop} {f g : Nat → α} {x : Nat} (h : Q x) : mix Q f g x = g x := by unfold mix; rw [if_pos h]
theorem mix_out {α : Type} {Q : Nat → Prop} {f g : Nat → α} {x : Nat} (h : ¬ Q x) : mix Q f g x = f x := by unfold mix; rw [if_neg h]

/-- More nodes copied, to later blocks. -/
theorem ClS.join (h : ClS W lo P nd cn cd) (hT : Tch W W' (fun _ => False)) (k : ClS W' W.heap.size Q nd cn2 cd2) (hlo : lo ≤ W.heap.size) (hd : ∀ x, P x → ¬ Q x) (hk : ∀ x, P x → ∀ c, c ∈ (nd x).cl.kids → ¬ Q c) (hq : ∀ x, Q x → ∀ c, c ∈ (nd x).cl.kids → Q c) :
    ClS W' lo (fun x => P x ∨ Q x) nd (mix Q cn cn2) (mix Q cd cd2) := by
  have hP : ∀ x, P x → mix Q cn cn2 x = cn x ∧ mix Q cd cd2 x = cd x := fun x hx => ⟨mix_out (hd x hx), mix_out (hd x hx)⟩
  have hQ : ∀ x, Q x → mix Q cn cn2 x = cn2 x ∧ mix Q cd cd2 x = cd2 x := fun x hx => ⟨mix_in hx, mix_in hx⟩
  have lt : ∀ x, P x → _ := fun x hx => (h.one x hx).lt
  have ge : ∀ x, Q x → _ := fun x hx => (k.one x hx).ge
  refine ⟨?_, ?_, ?_, ?_, ?_⟩
  · rintro x (hx | hx)
    · exact ((h.later hT).one x hx).congr (hP x hx).1 (hP x hx).2 (fun c hc => mix_out (hk x hx c hc))
    · exact ((k.one x hx).low hlo).congr (hQ x hx).1 (hQ x hx).2 (fun c hc => mix_in (hq x hx c hc))
  · rintro x y (hx | hx) (hy | hy) e
    · rw [(hP x hx).1, (hP y hy).1] at e; exact h.sn x y hx hy e
    · rw [(hP x hx).1, (hQ y hy).1] at e; have := (lt x hx).1; have := (ge y hy).1; omega
    · rw [(hQ x hx).1, (hP y hy).1] at e; have := (lt y hy).1; have := (ge x hx).1; omega
    · rw [(hQ x hx).1, (hQ y hy).1] at e; exact k.sn x y hx hy e
  · rintro x y (hx | hx) (hy | hy) e
    · rw [(hP x hx).2, (hP y hy).2] at e; exact h.sl x y hx hy e
    · rw [(hP x hx).2, (hQ y hy).2] at e; have := (lt x hx).2.1; have := (ge y hy).2.1; omega
    · rw [(hQ x hx).2, (hP y hy).2] at e; have := (lt y hy).2.1; have := (ge x hx).2.1; omega
    · rw [(hQ x hx).2, (hQ y hy).2] at e; exact k.sl x y hx hy e
  · rintro x y (hx | hx) (hy | hy) e
    · rw [(hP x hx).2, (hP y hy).2] at e; exact h.sa x y hx hy e
    · rw [(hP x hx).2, (hQ y hy).2] at e; have := (lt x hx).2.2.1; have := (ge y hy).2.2.1; omega
    · rw [(hQ x hx).2, (hP y hy).2] at e; have := (lt y hy).2.2.1; have := (ge x hx).2.2.1; omega
    · rw [(hQ x hx).2, (hQ y hy).2] at e; exact k.sa x y hx hy e
  · rintro x y (hx | hx) (hy | hy) n1 n2 e
    · rw [(hP x hx).2] at n1 e; rw [(hP y hy).2] at n2 e; exact h.sb x y hx hy n1 n2 e
    · rw [(hP x hx).2, (hQ y hy).2] at e; have := (lt x hx).2.2.2; have := (ge y hy).2.2.2; omega
    · rw [(hQ x hx).2, (hP y hy).2] at e; have := (lt y hy).2.2.2; have := (ge x hx).2.2.2; omega
    · rw [(hQ x hx).2] at n1 e; rw [(hQ y hy).2] at n2 e; exact k.sb x y hx hy n1 n2 e

/-- The node above them copied last. -/
theorem ClS.top (h : ClS W lo P nd cn cd) (hT : Tch W W' (fun _ => False)) {p p' lo0 : Nat} {d' : Nd} (hp : ¬ P p) (hkp : ∀ x, P x → ∀ c, c ∈ (nd x).cl.kids → c ≠ p) (hl0 : lo0 ≤ lo) (k : Cl1 W' lo0 nd (upd cn p p') (upd cd p d') p)
    (e1 : p' < lo ∨ W.heap.size ≤ p') (e2 : d'.cl.l < lo ∨ W.heap.size ≤ d'.cl.l) (e3 : d'.cl.a < lo ∨ W.heap.size ≤ d'.cl.a) (e4 : d'.np = false → d'.sb < lo ∨ W.heap.size ≤ d'.sb) :
    ClS W' lo0 (fun x => x = p ∨ P x) nd (upd cn p p') (upd cd p d') := by
  have ne : ∀ x, P x → x ≠ p := fun x hx e => hp (e ▸ hx)
  have up : ∀ x, P x → upd cn p p' x = cn x ∧ upd cd p d' x = cd x := fun x hx => ⟨upd_ne _ _ (ne x hx), upd_ne _ _ (ne x hx)⟩
  have at_ : upd cn p p' p = p' ∧ upd cd p d' p = d' := ⟨upd_self _ _ _, upd_self _ _ _⟩
  have lt : ∀ x, P x → _ := fun x hx => (h.one x hx).lt
  have ge : ∀ x, P x → _ := fun x hx => (h.one x hx).ge
  refine ⟨?_, ?_, ?_, ?_, ?_⟩
  · rintro x (rfl | hx)
    · exact k
    · exact (((h.later hT).one x hx).low hl0).congr (up x hx).1 (up x hx).2 (fun c hc => upd_ne _ _ (hkp x hx c hc))
  · rintro x y (rfl | hx) (rfl | hy) e
    · rfl
    · rw [at_.1, (up y hy).1] at e; have := (lt y hy).1; have := (ge y hy).1; omega
    · rw [at_.1, (up x hx).1] at e; have := (lt x hx).1; have := (ge x hx).1; omega
    · rw [(up x hx).1, (up y hy).1] at e; exact h.sn x y hx hy e
  · rintro x y (rfl | hx) (rfl | hy) e
    · rfl
    · rw [at_.2, (up y hy).2] at e; have := (lt y hy).2.1; have := (ge y hy).2.1; omega
    · rw [at_.2, (up x hx).2] at e; have := (lt x hx).2.1; have := (ge x hx).2.1; omega
    · rw [(up x hx).2, (up y hy).2] at e; exact h.sl x y hx hy e
  · rintro x y (rfl | hx) (rfl | hy) e
    · rfl
    · rw [at_.2, (up y hy).2] at e; have := (lt y hy).2.2.1; have := (ge y hy).2.2.1; omega
    · rw [at_.2, (up x hx).2] at e; have := (lt x hx).2.2.1; have := (ge x hx).2.2.1; omega
    · rw [(up x hx).2, (up y hy).2] at e; exact h.sa x y hx hy e
  · rintro x y (rfl | hx) (rfl | hy) n1 n2 e
    · rfl
    · rw [at_.2] at n1; rw [at_.2, (up y hy).2] at e; have := (lt y hy).2.2.2; have := (ge y hy).2.2.2; have := e4 n1; omega
    · rw [at_.2] at n2; rw [at_.2, (up x hx).2] at e; have := (lt x hx).2.2.2; have := (ge x hx).2.2.2; have := e4 n2; omega
    · rw [(up x hx).2] at n1 e; rw [(up y hy).2] at n2 e; exact h.sb x y hx hy n1 n2 e
end

/-! ### the copies of a node's children, one by one -/

/-- What Clone of a node leaves. -/
def CloneP (N : Nat → Prop) (wd : Nat → List UInt8) (nd : Nat → Nd) (p : Nat) (W : World) (e : Ending) (W' : World) : Prop :=
  ∃ cn cd, e = .returned (ptr (cn p)) ∧ Tch W W' (fun _ => False) ∧ ClS W' W.heap.size (fun x => N x ∧ wd p <+: wd x) nd cn cd

/-- What clone of a node's list leaves. -/
def CloneL (N : Nat → Prop) (wd : Nat → List UInt8) (nd : Nat → Nd) (p : Nat) (W : World) (e : Ending) (W' : World) : Prop :=
  ∃ cn cd cl' Wm lo, e = .returned (.iface cl'.ty (.pointer (some ⟨cl'.l, 0, none⟩))) ∧ Tch W Wm (fun _ => False) ∧ Tch Wm W' (fun _ => False) ∧ ClS Wm lo (fun x => ∃ d, d ∈ (nd p).cl.kids ∧ N x ∧ wd d <+: wd x) nd cn cd ∧ lo ≤ Wm.heap.size ∧ W.heap.size ≤ cl'.a ∧ cl'.a < lo ∧ Wm.heap.size ≤ cl'.l ∧ CLraw W' cl' ∧ ClC cn (nd p).cl cl'

/-- The children in 'done' have been copied; the new array holds A. -/
structure CLp (W0 : World) (lo aB : Nat) (N : Nat → Prop) (wd : Nat → List UInt8) (nd : Nat → Nd) (done : List Nat) (A : List (Option Nat)) (cn : Nat → Nat) (cd : Nat → Nd) (wr : World) : Prop where
  T : Tch W0 wr (fun _ => False)
  arr : wr.heap[aB]? = some (.cells (arrV A) 41 (0, 0))
  a0 : W0.heap.size ≤ aB
  a1 : aB < lo
  le : lo ≤ wr.heap.size
  S : ClS wr lo (fun x => ∃ d, d ∈ done ∧ N x ∧ wd d <+: wd x) nd cn cd

section
variable {root : Nat} {N : Nat → Prop} {nd : Nat → Nd} {wd : Nat → List UInt8} {S : Nat → List UInt8} {sh : Nat → Nat} {W0 wr wr2 wr3 : World} {lo aB p c j : Nat} {done : List Nat} {A : List (Option Nat)} {cn cn2 : Nat → Nat} {cd cd2 : Nat → Nd}

/-- One child more. -/
theorem CLp.step (I : Inv root N nd wd S sh) (hp : N p) (H : CLp W0 lo aB N wd nd done A cn cd wr) (hdone : ∀ d, d ∈ done → d ∈ (nd p).cl.kids) (hc : c ∈ (nd p).cl.kids) (hcd : c ∉ done)
    (hT : Tch wr wr2 (fun _ => False)) (k : ClS wr2 wr.heap.size (fun x => N x ∧ wd c <+: wd x) nd cn2 cd2) (h3 : wr3.heap = (wr2.setCell ⟨aB, j, none⟩ (ptr (cn2 c))).heap) (hm : wr3.os = wr2.os ∧ wr3.tape = wr2.tape ∧ wr3.output = wr2.output) :
    ∃ cn3 cd3, (∀ d, d ∈ done → cn3 d = cn d) ∧ cn3 c = cn2 c ∧ CLp W0 lo aB N wd nd (done ++ [c]) (A.set j (some (cn3 c))) cn3 cd3 wr3 := by
  have hcN := (I.kid p hp c hc).1
  have hQc : N c ∧ wd c <+: wd c := ⟨hcN, List.prefix_refl _⟩
  have hdis : ∀ d, d ∈ done → ∀ x, wd d <+: wd x → ¬ wd c <+: wd x := fun d hd x h1 h2 => by
    have := I.same_kid hp (hdone d hd) hc h1 h2
    rw [this] at hd
    exact hcd hd
  have J := H.S.join hT k H.le (fun x hx hQ => by obtain ⟨d, hd, _, h⟩ := hx; exact hdis d hd x h hQ.2) (fun x hx e he hQ => by
      obtain ⟨d, hd, hx, h⟩ := hx
      exact hdis d hd e (h.trans (I.kid_pre hx he)) hQ.2)
    (fun x hx e he => ⟨(I.kid x hx.1 e he).1, hx.2.trans (I.kid_pre hx.1 he)⟩)
  have hal : aB < wr2.heap.size := by have := H.a1; have := H.le; have := hT.size; omega
  have harr2 : wr2.heap[aB]? = some (.cells (arrV A) 41 (0, 0)) := (hT.keep aB (by have := H.a1; have := H.le; omega) (fun h => h)).trans H.arr
  have hT3 : Tch wr2 wr3 (fun k => k = aB) := ⟨hm.1, hm.2.1, hm.2.2, by rw [h3]; simp, fun k _ hk => by rw [h3, heap_set_ne hk]⟩
  have hcn : mix (fun x => N x ∧ wd c <+: wd x) cn cn2 c = cn2 c := mix_in hQc
  refine ⟨mix (fun x => N x ∧ wd c <+: wd x) cn cn2, mix (fun x => N x ∧ wd c <+: wd x) cd cd2, fun d hd => mix_out (fun hQ => hdis d hd d (List.prefix_refl _) hQ.2), hcn, ?_⟩
  refine ⟨(H.T.trans hT (fun _ _ h => h)).trans hT3 (fun b hb h => by have := H.a0; omega), ?_, H.a0, H.a1, by have := hT.size; have := hT3.size; have := H.le; omega, ?_⟩
  · rw [h3, heap_set harr2, arrV_set, hcn]
  · refine (J.frame (W' := wr3) (fun k hk hlt => hT3.keep k hlt (fun e => by have := H.a1; omega))).of (fun x hx => ?_)
    obtain ⟨d, hd, hx, h⟩ := hx
    rw [List.mem_append, List.mem_singleton] at hd
    rcases hd with hd | rfl
    · exact .inl ⟨d, hd, hx, h⟩
    · exact .inr ⟨hx, h⟩
end

end Go.Proofs.YtmdbnjepajifpaaGreat
