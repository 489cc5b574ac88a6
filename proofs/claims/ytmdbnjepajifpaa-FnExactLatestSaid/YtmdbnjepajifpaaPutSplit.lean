/- What put leaves where it splits a node. -/
import Derived.Test.YtmdbnjepajifpaaPutAdd
namespace Go.Proofs.Ytmdbnjepajifpaa
open Go.RowKit

theorem cell_alloc_lt {w : World} {q : Nat} {d : Obj} (h : w.heap[q]? = some d) (o : Obj) (nn j : Nat) : ((w.drewN nn).alloc o).cell? ⟨q, j, none⟩ = w.cell? ⟨q, j, none⟩ := by
  unfold World.cell?
  rw [Below.heap_alloc _ _ _ (show q < (w.drewN nn).heap.size from lt_of_heap h)]; rfl

theorem itv_one (i : Option Int) : (itv i).oneCell' = true := by cases i <;> rfl

/-- The world behind the stores of a split. -/
def splitW (w2 : World) (q x l : Nat) (d : Nd) (c : Nat) : World :=
  (((((((w2.setCell ⟨q, 0, none⟩ (.slice none 0 0)).setCell ⟨q, 1, none⟩ .nilIface).setCell ⟨q, 2, none⟩ (.int .i64 10)).setCell ⟨q, 3, none⟩ (.int .i64 8)).setCell ⟨q, 4, none⟩ (.iface 102 (ptr l))).setCell ⟨q, 0, none⟩ (.slice (some ⟨d.sb, d.so, none⟩) c d.sc)).setCell
    ⟨x, 0, none⟩ (.slice (some ⟨d.sb, d.so + c, none⟩) (d.px.length - c) (d.sc - c)))

section
variable {w2 : World} {q x l a : Nat} {d : Nd} {A B : List UInt8}

theorem splitW_q (e2 : w2.heap[q]? = some d.obj) (hqx : q ≠ x) : (splitW w2 q x l d A.length).heap[q]? = some (splitTop d A (.sp l a 8 [])).obj := by
  unfold splitW
  rw [heap_set_ne hqx, heap_set (heap_set (heap_set (heap_set (heap_set (heap_set e2 _) _) _) _) _) _]
  rfl
theorem splitW_x (e3 : w2.heap[x]? = some d.obj) (hqx : q ≠ x) (hnp : d.np = false) (hpx : d.px = A ++ B) : (splitW w2 q x l d A.length).heap[x]? = some (splitLow d A B).obj := by
  unfold splitW
  have h : ∀ (w : World) (i : Nat) (v : Value), (w.setCell ⟨q, i, none⟩ v).heap[x]? = w.heap[x]? := fun w i v => heap_set_ne hqx.symm v
  rw [heap_set (by rw [h, h, h, h, h, h]; exact e3)]
  have e : d.px.length - A.length = B.length := by rw [hpx, List.length_append]; omega
  rw [e]
  unfold Nd.obj splitLow Nd.pv
  simp [hnp]
theorem splitW_ne {k c : Nat} (h1 : k ≠ q) (h2 : k ≠ x) : (splitW w2 q x l d c).heap[k]? = w2.heap[k]? := by
  unfold splitW
  rw [heap_set_ne h2, heap_set_ne h1, heap_set_ne h1, heap_set_ne h1, heap_set_ne h1, heap_set_ne h1, heap_set_ne h1]
theorem splitW_size {c : Nat} : (splitW w2 q x l d c).heap.size = w2.heap.size := by unfold splitW; simp
theorem splitW_eq {c : Nat} : (((((((w2.setCell ⟨q, 0, none⟩ (.slice none 0 0)).setCell ⟨q, 1, none⟩ .nilIface).setCell ⟨q, 2, none⟩ (.int .i64 10)).setCell ⟨q, 3, none⟩ (.int .i64 8)).setCell ⟨q, 4, none⟩ (.iface 102 (ptr l))).setCell ⟨q, 0, none⟩ (.slice (some ⟨d.sb, d.so, none⟩) c d.sc)).setCell
    ⟨x, 0, none⟩ (.slice (some ⟨d.sb, d.so + c, none⟩) (d.px.length - c) (d.sc - c))) = splitW w2 q x l d c := rfl
theorem splitW_tch {c : Nat} : Tch w2 (splitW w2 q x l d c) (fun k => k = q ∨ k = x) := by
  have h : ∀ (w : World) (i : Nat) (v : Value), Tch w2 w (fun k => k = q ∨ k = x) → Tch w2 (w.setCell ⟨q, i, none⟩ v) (fun k => k = q ∨ k = x) := fun w i v h => h.setCell _ _ (fun _ => .inl rfl)
  exact (h _ _ _ (h _ _ _ (h _ _ _ (h _ _ _ (h _ _ _ (h _ _ _ (Tch.refl _ _))))))).setCell _ _ (fun _ => .inr rfl)
end

attribute [irreducible] splitW

section
variable {W w2 w5 : World} {t : Nat} {mp : Int} {rp : List UInt8} {M : List UInt8 → Option Int} {O : Nat → Prop} {N : Nat → Prop} {nd : Nat → Nd} {wd : Nat → List UInt8} {S : Nat → List UInt8} {sh : Nat → Nat} {q x y l a : Nat} {A B u : List UInt8}

/-- What is known behind NewTrie in a split. -/
structure SplitH (W w2 : World) (N : Nat → Prop) (nd : Nat → Nd) (q x y l a : Nat) (A B : List UInt8) : Prop where
  hq : N q
  hx : x = W.heap.size
  px : (nd q).px = A ++ B
  hB : B ≠ []
  hl : x < l
  ha : x < a
  e2 : w2.heap[q]? = some (nd q).obj
  e3 : w2.heap[x]? = some (nd q).obj
  raw : CLraw w2 (.sp l a 8 [])
  T : Tch W w2 (fun _ => False)

theorem SplitH.keep (H : SplitH W w2 N nd q x y l a A B) {k c : Nat} (hk : k < W.heap.size) (h : k ≠ q) : (splitW w2 q x l (nd q) c).heap[k]? = W.heap[k]? := by
  have := H.hx
  rw [splitW_ne h (by omega), H.T.keep k hk (fun h => h)]

theorem SplitH.low (H : SplitH W w2 N nd q x y l a A B) (TA0 : TA W t mp rp M O N nd wd S sh) : HN (splitW w2 q x l (nd q) A.length) x (splitLow (nd q) A B) := by
  have hx := H.hx
  have hN := TA0.T.H q H.hq
  have hnp := TA0.T.np H.hq
  have hql := lt_of_heap hN.obj
  obtain ⟨o1, o2, o3, o4⟩ := TA0.own q H.hq
  have l2 := TA0.lt _ o2
  have l3 := TA0.lt _ o3
  have l4 := TA0.lt _ o4
  have hle := hN.le
  rw [H.px, List.length_append] at hle
  refine ⟨splitW_x H.e3 (by omega) hnp H.px, ?_, by show B.length ≤ (nd q).sc - A.length; omega, fun _ => ?_⟩
  · exact hN.raw.frame (H.keep l2 (TA0.T.l_ne H.hq H.hq)) (H.keep l3 (TA0.T.a_ne H.hq H.hq))
  · obtain ⟨C, fr, h1, h2, h3, h4⟩ := hN.blk hnp
    have hs := H.keep (c := A.length) l4 (TA0.T.s_ne H.hq H.hq)
    refine ⟨C, fr, hs.trans h1, by show (nd q).so + A.length + ((nd q).sc - A.length) ≤ _; omega, fun i hi => by show (splitW w2 q x l (nd q) A.length).frozen? ⟨(nd q).sb, i, none⟩ = false; rw [frozen_same hs]; exact h3 i hi, fun i hi => ?_⟩
    have hi' : i < B.length := hi
    have := h4 (A.length + i) (by rw [H.px, List.length_append]; omega)
    show C[(nd q).so + A.length + i]? = some (.int .u8 ((B.getD i 0).toNat : Int))
    rw [Nat.add_assoc, this, H.px, List.getD_eq_getElem?_getD, List.getElem?_append_right (by omega), List.getD_eq_getElem?_getD, Nat.add_sub_cancel_left]

theorem SplitH.other (H : SplitH W w2 N nd q x y l a A B) (TA0 : TA W t mp rp M O N nd wd S sh) {p : Nat} (hp : N p) (hne : p ≠ q) : HN (splitW w2 q x l (nd q) A.length) p (nd p) := by
  have hN := TA0.T.H p hp
  obtain ⟨o1, o2, o3, o4⟩ := TA0.own p hp
  exact hN.frame (H.keep (TA0.lt _ o1) hne) (H.keep (TA0.lt _ o2) (TA0.T.l_ne hp H.hq)) (H.keep (TA0.lt _ o3) (TA0.T.a_ne hp H.hq)) (H.keep (TA0.lt _ o4) (TA0.T.s_ne hp H.hq))

theorem SplitH.top (H : SplitH W w2 N nd q x y l a A B) (TA0 : TA W t mp rp M O N nd wd S sh) : HN (splitW w2 q x l (nd q) A.length) q (splitTop (nd q) A (.sp l a 8 [])) := by
  have hx := H.hx
  have hN := TA0.T.H q H.hq
  have hnp := TA0.T.np H.hq
  have hql := lt_of_heap hN.obj
  obtain ⟨o1, o2, o3, o4⟩ := TA0.own q H.hq
  have l4 := TA0.lt _ o4
  have hle := hN.le
  have h1 := H.hl
  have h2 := H.ha
  rw [H.px, List.length_append] at hle
  refine ⟨splitW_q H.e2 (by omega), H.raw.frame (splitW_ne (by show l ≠ q; omega) (by show l ≠ x; omega)) (splitW_ne (by show a ≠ q; omega) (by show a ≠ x; omega)), by show A.length ≤ (nd q).sc; omega, fun _ => ?_⟩
  obtain ⟨C, fr, h1, h2, h3, h4⟩ := hN.blk hnp
  have hs := H.keep (c := A.length) l4 (TA0.T.s_ne H.hq H.hq)
  refine ⟨C, fr, hs.trans h1, h2, fun i hi => by show (splitW w2 q x l (nd q) A.length).frozen? ⟨(nd q).sb, i, none⟩ = false; rw [frozen_same hs]; exact h3 i hi, fun i hi => ?_⟩
  have hi' : i < A.length := hi
  have := h4 i (by rw [H.px, List.length_append]; omega)
  show C[(nd q).so + i]? = some (.int .u8 ((A.getD i 0).toNat : Int))
  rw [this, H.px, List.getD_eq_getElem?_getD, List.getElem?_append_left hi', List.getD_eq_getElem?_getD]

/-- compact returns the lower part. -/
theorem split_compact (H : SplitH W w2 N nd q x y l a A B) (TA0 : TA W t mp rp M O N nd wd S sh) (L : Lf 2 N nd) :
    Calls Try.prog 68 #[ptr x] (splitW w2 q x l (nd q) A.length) (fun e w' => e = .returned (ptr x) ∧ ∃ n, w' = (splitW w2 q x l (nd q) A.length).drewN n) := by
  have hx := H.hx
  have hnp := TA0.T.np H.hq
  refine (compact_any _ x (splitLow (nd q) A B) nd (H.low TA0) hnp (fun c hc => ?_) ?_).mono ?_
  · have hc' : c ∈ (nd q).cl.kids := hc
    obtain ⟨h1, h2, h3, h4⟩ := TA0.T.I.kid q H.hq c hc'
    have hcq : c ≠ q := fun h => by have := TA0.T.I.kid_longer H.hq hc'; rw [h] at this; omega
    have := lt_of_heap (TA0.T.H c h1).obj
    have hpl := TA0.T.pxl h1
    exact ⟨H.other TA0 h1 hcq, TA0.T.np h1, by omega, by omega, h4⟩
  · have := TA0.T.pxl H.hq
    rw [H.px, List.length_append] at this
    show B.length ≤ 1000
    omega
  · intro e w' h
    rcases h with ⟨h1, h2⟩ | ⟨c, _, hk, hi, _⟩
    · exact ⟨h1, h2⟩
    · exfalso
      have hk' : (nd q).cl.kids = [c] := hk
      have hi' : (nd q).it = none := hi
      rcases L q H.hq with h | h
      · exact h hi'
      · rw [hk'] at h; simp at h

/-- add at the upper part's new list. -/
theorem split_add (H : SplitH W w2 N nd q x y l a A B) (TA0 : TA W t mp rp M O N nd wd S sh) (n : Nat) :
    Calls Try.prog 112 #[ptr l, ptr x] ((splitW w2 q x l (nd q) A.length).drewN n) (AddP ((splitW w2 q x l (nd q) A.length).drewN n) (fbY nd x (B.headD 0)) (.sp l a 8 []) x) := by
  have hraw : CLraw ((splitW w2 q x l (nd q) A.length).drewN n) (.sp l a 8 []) := (H.top TA0).raw.dr n
  have h0 : ∀ c, ¬ c ∈ (CL.sp l a 8 []).kids := fun c hc => by simp [CL.kids] at hc
  have hkb : KB ((splitW w2 q x l (nd q) A.length).drewN n) (fbY nd x (B.headD 0)) (.sp l a 8 []) := ⟨fun c hc => (h0 c hc).elim, fun c d hc => (h0 c hc).elim, by simp [CL.kids], trivial⟩
  have hfb := ((H.low TA0).dr n).fbr (TA0.T.np H.hq) H.hB
  have e : (splitLow (nd q) A B).fb = fbY nd x (B.headD 0) x := by simp [fbY, Nd.fb, splitLow]
  rw [e] at hfb
  generalize (splitW w2 q x l (nd q) A.length).drewN n = W' at *
  have := add_any W' (fbY nd x (B.headD 0)) (.sp l a 8 []) x hraw hkb hfb (fun c hc => (h0 c hc).elim)
  exact this

/-- The cells of the upper part, behind it. -/
theorem split_q4 (H : SplitH W w2 N nd q x y l a A B) (TA0 : TA W t mp rp M O N nd wd S sh) {n : Nat} (hT : Tch ((splitW w2 q x l (nd q) A.length).drewN n) w5 (fun k => k = l ∨ k = a)) : w5.heap[q]? = some (splitTop (nd q) A (.sp l a 8 [])).obj := by
  have ho := ((H.top TA0).dr n).obj
  have h0 := lt_of_heap (TA0.T.H q H.hq).obj
  have hx := H.hx
  have h1 := H.hl
  have h2 := H.ha
  generalize (splitW w2 q x l (nd q) A.length).drewN n = W' at *
  rw [hT.keep q (lt_of_heap ho) (fun h => by rcases h with h | h <;> omega)]
  exact ho

/-- No key lies inside a node's part. -/
theorem inside_none (TA0 : TA W t mp rp M O N nd wd S sh) (hq : N q) (hpx : (nd q).px = A ++ B) (hB : B ≠ []) (hA : A ≠ [] ∨ q = t) (hu : wd q = u ++ (nd q).px) : M (u ++ A) = none := by
  by_cases h : M (u ++ A) = none
  · exact h
  · exfalso
    obtain ⟨p, hp, e⟩ := TA0.C.of _ h
    have I := TA0.T.I
    have hBl := List.length_pos_iff.2 hB
    have hlen : (wd q).length = (wd p).length + B.length := by rw [hu, e, hpx]; simp; omega
    have hpre : wd p <+: wd q := by rw [hu, e, hpx, ← List.append_assoc]; exact List.prefix_append _ _
    by_cases hqt : q = t
    · subst hqt
      have := (I.root_le hp).length_le
      omega
    · have hAl : 0 < A.length := by
        rcases hA with h | h
        · exact List.length_pos_iff.2 h
        · exact absurd h hqt
      obtain ⟨P, hP, hc⟩ := I.par q hq hqt
      have hw := (I.kid P hP q hc).2.2.1
      have huP : u = wd P := by rw [hu] at hw; exact List.append_cancel_right hw
      have hPp : wd P <+: wd p := by rw [e, huP]; exact List.prefix_append _ _
      rcases I.desc hP hp hPp with h' | ⟨c', hc', h'⟩
      · rw [h'] at e
        have := congrArg List.length e
        rw [← huP, List.length_append] at this
        omega
      · have : c' = q := I.same_kid hP hc' hc (h'.trans hpre) (List.prefix_refl _)
        subst this
        have := h'.length_le
        omega

set_option maxHeartbeats 1600000 in
theorem split_ta (H : SplitH W w2 N nd q x y l a A B) (TA0 : TA W t mp rp M O N nd wd S sh) (hmp : mp = 10 ∨ q = t) (hu : wd q = u ++ (nd q).px) (hA : A ≠ [] ∨ q = t) {cl' : CL} {n : Nat}
    (hadd : CLraw w5 cl' ∧ cl'.kids.Perm (x :: (CL.sp l a 8 []).kids) ∧ cl'.placed (fbY nd x (B.headD 0)) ∧ (cl'.l = l ∨ w2.heap.size ≤ cl'.l) ∧ (cl'.a = a ∨ w2.heap.size ≤ cl'.a) ∧ Tch ((splitW w2 q x l (nd q) A.length).drewN n) w5 (fun k => k = l ∨ k = a)) :
    ∃ O' rp', TA (w5.setCell ⟨q, 4, none⟩ cl'.val) t 10 rp' M O' (fun y => N y ∨ y = x) (upd (upd nd q (splitTop (nd q) A cl')) x (splitLow (nd q) A B)) (upd (upd wd q (u ++ A)) x (wd q)) S sh ∧
      (∀ k, O' k → O k ∨ (W.heap.size ≤ k ∧ k < (w5.setCell ⟨q, 4, none⟩ cl'.val).heap.size)) ∧ Tch W (w5.setCell ⟨q, 4, none⟩ cl'.val) O ∧
      (Lf 2 N nd → LfX 2 (fun y => N y ∨ y = x) (upd (upd nd q (splitTop (nd q) A cl')) x (splitLow (nd q) A B)) q) ∧ cl'.kids = [x] := by
  obtain ⟨k1, k2, k3, k4, k5, k8⟩ := hadd
  have hk : cl'.kids = [x] := by
    have : cl'.kids.Perm [x] := k2
    exact List.perm_singleton.1 this
  have hx := H.hx
  have hxl := H.hl
  have hxa := H.ha
  have hq := H.hq
  have hqo := (TA0.T.H q hq).obj
  have hql := lt_of_heap hqo
  have hxN : ¬ N x := fun h => by have := lt_of_heap (TA0.T.H x h).obj; omega
  have hqx : q ≠ x := fun h => hxN (h ▸ hq)
  have hnp := TA0.T.np hq
  have ltN : ∀ p, N p → p < W.heap.size ∧ (nd p).cl.l < W.heap.size ∧ (nd p).cl.a < W.heap.size ∧ (nd p).sb < W.heap.size := fun p hp => by
    obtain ⟨o1, o2, o3, o4⟩ := TA0.own p hp
    exact ⟨TA0.lt _ o1, TA0.lt _ o2, TA0.lt _ o3, TA0.lt _ o4⟩
  have hw2 : W.heap.size ≤ w2.heap.size := H.T.size
  have hlow := (H.low TA0).dr n
  have htop := (H.top TA0).dr n
  have hoth := fun p hp hne => ((H.other TA0 (p := p) hp hne).dr n)
  have hs3 : ((splitW w2 q x l (nd q) A.length).drewN n).heap.size = w2.heap.size := splitW_size
  have hT3 : Tch W ((splitW w2 q x l (nd q) A.length).drewN n) O :=
    ((H.T.mono (fun _ _ h => h.elim)).trans splitW_tch (T := O) (fun b hb h => by rcases h with h | h; exact h ▸ (TA0.own q hq).1; omega)).drn n
  generalize (splitW w2 q x l (nd q) A.length).drewN n = W3 at *
  have hs5 : W3.heap.size ≤ w5.heap.size := k8.size
  have kp5 : ∀ k, k < W3.heap.size → k ≠ l → k ≠ a → w5.heap[k]? = W3.heap[k]? := fun k hk n1 n2 => k8.keep k hk (fun h => by rcases h with h | h; exact n1 h; exact n2 h)
  obtain ⟨CL1, hcl1⟩ := k1.l_ty
  obtain ⟨CA1, hca1⟩ := k1.a_ty
  have hq5 : w5.heap[q]? = some (splitTop (nd q) A (.sp l a 8 [])).obj := by rw [kp5 q (by omega) (by omega) (by omega)]; exact htop.obj
  have nl : cl'.l ≠ q := ne_of_type hcl1 hq5 (CL.sty_ne _).1
  have na : cl'.a ≠ q := ne_of_type hca1 hq5 (by decide)
  have kp6 : ∀ k, k ≠ q → (w5.setCell ⟨q, 4, none⟩ cl'.val).heap[k]? = w5.heap[k]? := fun k h => heap_set_ne h _
  have hs6 : (w5.setCell ⟨q, 4, none⟩ cl'.val).heap.size = w5.heap.size := by simp
  have hxlt := lt_of_heap hlow.obj
  have hclb : W.heap.size ≤ cl'.l ∧ cl'.l < w5.heap.size := ⟨by rcases k4 with h | h <;> omega, k1.lt.1⟩
  have hcab : W.heap.size ≤ cl'.a ∧ cl'.a < w5.heap.size := ⟨by rcases k5 with h | h <;> omega, k1.lt.2⟩
  have hpl : cl'.placed (fun c => (upd (upd nd q (splitTop (nd q) A cl')) x (splitLow (nd q) A B) c).fb) := by
    refine placed_perm k3 (fun c hc => ?_)
    rw [hk] at hc
    simp at hc
    subst hc
    rw [upd_self]
    simp [fbY, Nd.fb, splitLow]
  have I' := TA0.T.I.split (q := q) (x := x) (A := A) (B := B) (u := u) (cl' := cl') hq hxN hnp H.px H.hB hA hu hk hpl (fun p hp h => by have := (ltN p hp).2.1; omega) (fun p hp h => by have := (ltN p hp).2.2.1; omega)
  have nx : ∀ {p}, N p → p ≠ x := fun {p} hp h => hxN (h ▸ hp)
  have ex : upd (upd nd q (splitTop (nd q) A cl')) x (splitLow (nd q) A B) x = splitLow (nd q) A B := upd_self _ _ _
  have eq' : upd (upd nd q (splitTop (nd q) A cl')) x (splitLow (nd q) A B) q = splitTop (nd q) A cl' := by rw [upd_ne _ _ hqx, upd_self]
  have eo : ∀ p, N p → p ≠ q → upd (upd nd q (splitTop (nd q) A cl')) x (splitLow (nd q) A B) p = nd p := fun p hp h => by rw [upd_ne _ _ (nx hp), upd_ne _ _ h]
  have wx : upd (upd wd q (u ++ A)) x (wd q) x = wd q := upd_self _ _ _
  have wq : upd (upd wd q (u ++ A)) x (wd q) q = u ++ A := by rw [upd_ne _ _ hqx, upd_self]
  have wo : ∀ p, N p → p ≠ q → upd (upd wd q (u ++ A)) x (wd q) p = wd p := fun p hp h => by rw [upd_ne _ _ (nx hp), upd_ne _ _ h]
  have hMA := inside_none TA0 hq H.px H.hB hA hu
  generalize upd (upd nd q (splitTop (nd q) A cl')) x (splitLow (nd q) A B) = nd' at *
  generalize upd (upd wd q (u ++ A)) x (wd q) = wd' at *
  have fr3 : ∀ p d, HN W3 p d → p ≠ q → p ≠ l → p ≠ a → d.cl.l ≠ q → d.cl.l ≠ l → d.cl.l ≠ a → d.cl.a ≠ q → d.cl.a ≠ l → d.cl.a ≠ a → d.sb ≠ q → d.sb ≠ l → d.sb ≠ a → d.sb < W3.heap.size → HN (w5.setCell ⟨q, 4, none⟩ cl'.val) p d := by
    intro p d h a1 a2 a3 b1 b2 b3 c1 c2 c3 d1 d2 d3 d4
    exact h.frame ((kp6 p a1).trans (kp5 p (lt_of_heap h.obj) a2 a3)) ((kp6 _ b1).trans (kp5 _ h.raw.lt.1 b2 b3)) ((kp6 _ c1).trans (kp5 _ h.raw.lt.2 c2 c3)) ((kp6 _ d1).trans (kp5 _ d4 d2 d3))
  obtain ⟨q1, q2, q3, q4⟩ := ltN q hq
  refine ⟨fun k => O k ∨ (W.heap.size ≤ k ∧ k < w5.heap.size), (nd' t).px, ⟨⟨I', ?_, ?_⟩, ⟨?_, ?_⟩, ?_, ?_, ?_, rfl⟩, fun k h => by rw [hs6]; exact h, ?_, ?_, hk⟩
  · rintro p (hp | rfl)
    · by_cases hpq : p = q
      · subst hpq
        rw [eq']
        refine ⟨?_, k1.frame (kp6 _ nl) (kp6 _ na), htop.le, fun h => ?_⟩
        · rw [heap_set hq5]; rfl
        · obtain ⟨C, fr, b1, b2, b3, b4⟩ := htop.blk h
          have hs : (w5.setCell ⟨p, 4, none⟩ cl'.val).heap[(nd p).sb]? = W3.heap[(nd p).sb]? := (kp6 _ (TA0.T.s_ne hp hp)).trans (kp5 _ (by omega) (by omega) (by omega))
          exact ⟨C, fr, hs.trans b1, b2, fun i hi => by show (w5.setCell ⟨p, 4, none⟩ cl'.val).frozen? ⟨(nd p).sb, i, none⟩ = false; rw [frozen_same hs]; exact b3 i hi, b4⟩
      · rw [eo p hp hpq]
        obtain ⟨g1, g2, g3, g4⟩ := ltN p hp
        exact fr3 p _ (hoth p hp hpq) hpq (by omega) (by omega) (TA0.T.l_ne hp hq) (by omega) (by omega) (TA0.T.a_ne hp hq) (by omega) (by omega) (TA0.T.s_ne hp hq) (by omega) (by omega) (by omega)
    · rw [ex]
      exact fr3 _ _ hlow hqx.symm (by omega) (by omega) (TA0.T.l_ne hq hq) (by show (nd q).cl.l ≠ l; omega) (by show (nd q).cl.l ≠ a; omega) (TA0.T.a_ne hq hq) (by show (nd q).cl.a ≠ l; omega) (by show (nd q).cl.a ≠ a; omega) (TA0.T.s_ne hq hq) (by show (nd q).sb ≠ l; omega) (by show (nd q).sb ≠ a; omega) (by show (nd q).sb < _; omega)
  · by_cases h : t = q
    · subst h; rw [eq']; rfl
    · rw [eo t TA0.T.I.root_mem h]; exact TA0.T.rn
  · rintro p (hp | rfl)
    · by_cases hpq : p = q
      · subst hpq; rw [wq, eq', hMA]; rfl
      · rw [wo p hp hpq, eo p hp hpq]; exact TA0.C.at_ p hp
    · rw [wx, ex]; exact TA0.C.at_ q hq
  · intro k hk
    obtain ⟨p, hp, e⟩ := TA0.C.of k hk
    by_cases hpq : p = q
    · subst hpq; exact ⟨x, .inr rfl, by rw [wx]; exact e⟩
    · exact ⟨p, .inl hp, by rw [wo p hp hpq]; exact e⟩
  · obtain ⟨o1, o2, o3, o4⟩ := TA0.own q hq
    rintro p (hp | rfl)
    · by_cases hpq : p = q
      · subst hpq
        rw [eq']
        exact ⟨.inl o1, .inr hclb, .inr hcab, .inl o4⟩
      · rw [eo p hp hpq]
        obtain ⟨o1, o2, o3, o4⟩ := TA0.own p hp
        exact ⟨.inl o1, .inl o2, .inl o3, .inl o4⟩
    · rw [ex]
      exact ⟨.inr ⟨by omega, by omega⟩, .inl o2, .inl o3, .inl o4⟩
  · intro k hk
    rw [hs6]
    rcases hk with h | h
    · have := TA0.lt k h; omega
    · exact h.2
  · by_cases h : t = q
    · subst h; rw [eq']; rfl
    · rw [eo t TA0.T.I.root_mem h, TA0.mp]
      rcases hmp with h' | h'
      · exact h'
      · exact absurd h'.symm h
  · exact (hT3.trans k8 (T := O) (fun b hb h => by rcases h with h | h <;> omega)).setCell _ _ (fun _ => (TA0.own q hq).1)
  · intro L
    rintro p (hp | rfl) hne
    · rw [eo p hp hne]; exact L p hp
    · rw [ex]; exact L q hq

theorem split_put (H : SplitH W w2 N nd q x y l a A B) (TA0 : TA W t mp rp M O N nd wd S sh) (L : Lf 2 N nd) (hmp : mp = 10 ∨ q = t) (hu : wd q = u ++ (nd q).px) (hA : A ≠ [] ∨ q = t) {cl' : CL} {n : Nat}
    (hadd : CLraw w5 cl' ∧ cl'.kids.Perm (x :: (CL.sp l a 8 []).kids) ∧ cl'.placed (fbY nd x (B.headD 0)) ∧ (cl'.l = l ∨ w2.heap.size ≤ cl'.l) ∧ (cl'.a = a ∨ w2.heap.size ≤ cl'.a) ∧ Tch ((splitW w2 q x l (nd q) A.length).drewN n) w5 (fun k => k = l ∨ k = a)) :
    ∃ O' rp' N' nd' wd', TA (w5.setCell ⟨q, 4, none⟩ cl'.val) t 10 rp' M O' N' nd' wd' S sh ∧ N' q ∧ LfX 2 N' nd' q ∧ (nd' q).it = none ∧ wd' q = u ++ A ∧ (nd' q).cl.kids.length = 1 ∧ (∀ c, c ∈ (nd' q).cl.kids → (nd' c).fb = B.headD 0) ∧
      (∀ k, O' k → O k ∨ (W.heap.size ≤ k ∧ k < (w5.setCell ⟨q, 4, none⟩ cl'.val).heap.size)) ∧ Tch W (w5.setCell ⟨q, 4, none⟩ cl'.val) O := by
  obtain ⟨O', rp', h1, h2, h3, h4, h5⟩ := split_ta H TA0 hmp hu hA hadd
  have hqx : q ≠ x := fun h => by have := lt_of_heap (TA0.T.H q H.hq).obj; have := H.hx; omega
  have eq' : upd (upd nd q (splitTop (nd q) A cl')) x (splitLow (nd q) A B) q = splitTop (nd q) A cl' := by rw [upd_ne _ _ hqx, upd_self]
  refine ⟨O', rp', _, _, _, h1, .inl H.hq, h4 L, by rw [eq']; rfl, by rw [upd_ne _ _ hqx, upd_self], by rw [eq']; show cl'.kids.length = 1; rw [h5]; rfl, fun c hc => ?_, h2, h3⟩
  rw [eq'] at hc
  have hc' : c ∈ cl'.kids := hc
  rw [h5] at hc'
  simp at hc'
  subst hc'
  rw [upd_self]
  rfl

theorem PutP.after {W W6 w' : World} {O O' : Nat → Prop} {K : List UInt8} {i : Int} {rep : Bool} {kb lf : Nat} {e : Ending} (h : PutP W6 t lf M O' K i rep kb e w') (hT : Tch W W6 O) (hO : ∀ k, O' k → O k ∨ (W.heap.size ≤ k ∧ k < W6.heap.size)) : PutP W t lf M O K i rep kb e w' := by
  obtain ⟨h1, O2, rp', h2, h3, h4⟩ := h
  have := hT.size
  have := h4.size
  refine ⟨h1, O2, rp', h2, fun k hk => ?_, hT.trans h4 (fun b hb h => ?_)⟩
  · rcases h3 k hk with h | h | h
    · rcases hO k h with h | h
      · exact .inl h
      · exact .inr (.inr ⟨h.1, by omega⟩)
    · exact .inr (.inl h)
    · exact .inr (.inr ⟨by omega, h.2⟩)
  · rcases hO b h with h | h
    · exact h
    · omega
end

end Go.Proofs.Ytmdbnjepajifpaa
