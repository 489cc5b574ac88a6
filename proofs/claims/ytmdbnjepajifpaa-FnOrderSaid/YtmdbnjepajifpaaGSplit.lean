/- A node split, in general: whatever the numbers; the lower part joined with its one child. -/
import Derived.Test.YtmdbnjepajifpaaGAdd
import Derived.Test.YtmdbnjepajifpaaC5
set_option linter.unusedVariables false
set_option linter.unusedSimpArgs false
namespace Go.Proofs.Ytmdbnjepajifpaa
open Go.RowKit

/-- What add to a sparse list with room leaves. -/
def AddX (w : World) (l a cap : Nat) (ks : List Nat) (c : Nat) (e : Ending) (w' : World) : Prop :=
  e = .returned (CL.sp l a cap (ks ++ [c])).val ∧ CLraw w' (.sp l a cap (ks ++ [c])) ∧ Tch w w' (fun k => k = l ∨ k = a)

theorem sp_add_postX {w : World} {l a cap c n : Nat} {ks : List Nat} (hraw : CLraw w (.sp l a cap ks)) (hroom : ks.length < cap) {W : World}
    (hW : ((w.drewN n).alloc (.cells #[ptr c] 50)).setCell ⟨a, ks.length, none⟩ (ptr c) = W) :
    AddX w l a cap ks c (.returned (CL.sp l a cap (ks ++ [c])).val) (W.setCell ⟨l, 0, none⟩ (.slice (some ⟨a, 0, none⟩) (ks.length + 1) cap)) := by
  obtain ⟨hl, hcap, hc2, C, ha, hC, hk⟩ := hraw
  have hla : l ≠ a := ne_of_type hl ha (by decide)
  have hT : Tch w (W.setCell ⟨l, 0, none⟩ (.slice (some ⟨a, 0, none⟩) (ks.length + 1) cap)) (fun k => k = l ∨ k = a) := by
    rw [← hW]
    exact (((Tch.dr n).alloc _).setCell _ _ (fun _ => .inr rfl)).setCell _ _ (fun _ => .inl rfl)
  have ha' : (W.setCell ⟨l, 0, none⟩ (.slice (some ⟨a, 0, none⟩) (ks.length + 1) cap)).heap[a]? = some (.cells (C.setIfInBounds ks.length (ptr c)) 50 (0, 0)) := by
    rw [heap_set_ne (fun h => hla h.symm), ← hW]
    exact heap_set (heap_al (w := w.drewN n) ha) _
  have hl' : (W.setCell ⟨l, 0, none⟩ (.slice (some ⟨a, 0, none⟩) (ks.length + 1) cap)).heap[l]? = some (.cells #[.slice (some ⟨a, 0, none⟩) (ks.length + 1) cap] 105 (0, 0)) := by
    have h1 : W.heap[l]? = some (.cells #[.slice (some ⟨a, 0, none⟩) ks.length cap] 105 (0, 0)) := by
      rw [← hW, heap_set_ne hla]; exact heap_al (w := w.drewN n) hl
    rw [heap_set h1]; rfl
  refine ⟨rfl, ⟨by rw [List.length_append]; exact hl', by rw [List.length_append]; simp; omega, hc2, _, ha', by simp [hC], ?_⟩, hT⟩
  intro i x hx
  by_cases hi : i < ks.length
  · rw [List.getElem?_append_left hi] at hx
    rw [Array.getElem?_setIfInBounds_ne (by omega)]
    exact hk i x hx
  · rw [List.getElem?_append_right (by omega)] at hx
    have : i = ks.length := by
      rcases Nat.lt_or_ge (i - ks.length) 1 with h | h
      · omega
      · rw [List.getElem?_eq_none (by simpa using h)] at hx; cases hx
    subst this
    simp at hx
    subst hx
    rw [Array.getElem?_setIfInBounds_self]
    rw [if_pos (by omega)]


set_option maxHeartbeats 1600000 in
theorem sp_add_roomX (w : World) (l a cap : Nat) (ks : List Nat) (c : Nat) (hraw : CLraw w (.sp l a cap ks)) (hroom : ks.length < cap) :
    Calls Try.prog 112 #[ptr l, ptr c] w (AddX w l a cap ks c) := by
  obtain ⟨hl, hcap, hc2, C, ha, hC, hk⟩ := hraw
  obtain ⟨i0, hi, hz0, hz1, hz2⟩ := info_parts infoPtr
  have c0 : w.cell? ⟨l, 0, none⟩ = some (.slice (some ⟨a, 0, none⟩) ks.length cap) := by rw [cell_of_block hl]; rfl
  have f0 := free_of_block hl 0
  have g1 : ((ks.length : Int) != (cap : Int)) = true := by rw [bne_iff_ne]; omega
  have hla : l ≠ a := ne_of_type hl ha (by decide)
  have HL := Lib.hid hl
  have HA := Lib.hid ha
  have HKs := Lib.hid hk
  have HC := Lib.hid hC
  have HR : Hid (CLraw w (.sp l a cap ks)) := (⟨hl, hcap, hc2, C, ha, hC, hk⟩ : CLraw w (.sp l a cap ks))
  clear hl ha hk hC
  go_enter Try.func112, Try.ntmps112
  go_wp2_with fail
  go_quiet (fail)
  go_wp2_with (at_builtin; refine wpList_append_arg _ rfl _ _ 103 rfl 50 i0 (.pointer none) 1 8 Try.underlying103 hi hz0 hz1 hz2 rfl (by decide) a 0 ks.length cap (ks.map ptr) rfl (by simp) ?c1 ⟨w.heap.size, 0, none⟩ 1 1 [ptr c] rfl rfl ?c2 ?c3 ?c4 ?c5 ?c6 ?c7 ?c8)
  case c1 =>
    intro j u hj
    simp only [List.getElem?_map, Option.map_eq_some_iff] at hj
    obtain ⟨x, hx, rfl⟩ := hj
    rw [cell_of_block (heap_al (w := w.drewN nq) HA.out), Nat.zero_add]
    exact HKs.out j x hx
  case c2 =>
    intro j u hj
    match j, hj with
    | 0, hj => simp at hj; subst hj; rw [Addr.add]; exact cell_of_block (heap_new (w.drewN nq) _) 0
  case c3 => intro u hu; simp at hu; subst hu; rfl
  case c4 =>
    intro _ j hj
    simp at hj
    subst hj
    have hC2 := HC.out
    constructor
    · rw [cell_of_block (heap_al (w := w.drewN nq) HA.out), Array.getElem?_eq_getElem (by omega)]; rfl
    · exact free_of_block (heap_al (w := w.drewN nq) HA.out) _
  case c5 => unfold maxLen; omega
  case c6 => omega
  case c8 => intro h; omega
  case c7 =>
    intro _
    simp only [World.setCells]
    have f1 : (((w.drewN nq).alloc (.cells #[ptr c] 50)).setCell ⟨a, ks.length, none⟩ (ptr c)).frozen? ⟨l, 0, none⟩ = false := by
      rw [World.frozen?_setCell]; exact free_of_block (heap_al (w := w.drewN nq) HL.out) 0
    have f2 : (((w.drewN nq).alloc (.cells #[ptr c] 50)).setCell ⟨a, ks.length, none⟩ (ptr c)).cell? ⟨l, 0, none⟩ = some (.slice (some ⟨a, 0, none⟩) ks.length cap) := by
      rw [World.cell?_setCell_other _ _ _ _ (by intro h; injection h with h; exact hla h.symm)]; rw [cell_of_block (heap_al (w := w.drewN nq) HL.out)]; rfl
    generalize hW : ((w.drewN nq).alloc (.cells #[ptr c] 50)).setCell ⟨a, ks.length, none⟩ (ptr c) = W at f1 f2 ⊢
    have HW := Lib.hid hW
    clear hW c0 f0
    go_wp2_with fail
    go_ret
    exact sp_add_postX HR.out hroom HW.out

section
variable {W w2 w5 : World} {t : Nat} {mp : Int} {rp : List UInt8} {M : List UInt8 → Option Int} {O : Nat → Prop} {N : Nat → Prop} {nd : Nat → Nd} {wd : Nat → List UInt8} {S : Nat → List UInt8} {sh : Nat → Nat} {q x y l a : Nat} {A B u : List UInt8}

set_option maxHeartbeats 1600000 in
theorem split_taG (H : SplitH W w2 N nd q x y l a A B) (TA0 : TA W t mp rp M O N nd wd S sh) (hu : wd q = u ++ (nd q).px) (hA : A ≠ [] ∨ q = t) {cl' : CL} {n : Nat}
    (hadd : CLraw w5 cl' ∧ cl'.kids.Perm (x :: (CL.sp l a 8 []).kids) ∧ cl'.placed (fbY nd x (B.headD 0)) ∧ (cl'.l = l ∨ w2.heap.size ≤ cl'.l) ∧ (cl'.a = a ∨ w2.heap.size ≤ cl'.a) ∧ Tch ((splitW w2 q x l (nd q) A.length).drewN n) w5 (fun k => k = l ∨ k = a)) :
    ∃ O' rp' mp', (mp' = 10 ∨ mp' = mp) ∧ TA (w5.setCell ⟨q, 4, none⟩ cl'.val) t mp' rp' M O' (fun y => N y ∨ y = x) (upd (upd nd q (splitTop (nd q) A cl')) x (splitLow (nd q) A B)) (upd (upd wd q (u ++ A)) x (wd q)) S sh ∧
      (∀ k, O' k → O k ∨ (W.heap.size ≤ k ∧ k < (w5.setCell ⟨q, 4, none⟩ cl'.val).heap.size)) ∧ Tch W (w5.setCell ⟨q, 4, none⟩ cl'.val) O ∧
      (Lf 1 N nd → LfX 1 (fun y => N y ∨ y = x) (upd (upd nd q (splitTop (nd q) A cl')) x (splitLow (nd q) A B)) q) ∧ cl'.kids = [x] := by
  obtain ⟨k1, k2, k3, k4, k5, k8⟩ := hadd
  have hk : cl'.kids = [x] := by
    have : cl'.kids.Perm [x] := k2
    exact List.perm_singleton.1 this
  have hx := H.hx
  have hxl := H.hl
  have hxa := H.ha
  have hq := H.hq
  have hqo := (TA0.T.H q hq).obj
  have hql := lt_of_heap hqo
  have hxN : ¬ N x := fun h => by have := lt_of_heap (TA0.T.H x h).obj; omega
  have hqx : q ≠ x := fun h => hxN (h ▸ hq)
  have hnp := TA0.T.np hq
  have ltN : ∀ p, N p → p < W.heap.size ∧ (nd p).cl.l < W.heap.size ∧ (nd p).cl.a < W.heap.size ∧ (nd p).sb < W.heap.size := fun p hp => by
    obtain ⟨o1, o2, o3, o4⟩ := TA0.own p hp
    exact ⟨TA0.lt _ o1, TA0.lt _ o2, TA0.lt _ o3, TA0.lt _ o4⟩
  have hw2 : W.heap.size ≤ w2.heap.size := H.T.size
  have hlow := (H.low TA0).dr n
  have htop := (H.top TA0).dr n
  have hoth := fun p hp hne => ((H.other TA0 (p := p) hp hne).dr n)
  have hs3 : ((splitW w2 q x l (nd q) A.length).drewN n).heap.size = w2.heap.size := splitW_size
  have hT3 : Tch W ((splitW w2 q x l (nd q) A.length).drewN n) O :=
    ((H.T.mono (fun _ _ h => h.elim)).trans splitW_tch (T := O) (fun b hb h => by rcases h with h | h; exact h ▸ (TA0.own q hq).1; omega)).drn n
  generalize (splitW w2 q x l (nd q) A.length).drewN n = W3 at *
  have hs5 : W3.heap.size ≤ w5.heap.size := k8.size
  have kp5 : ∀ k, k < W3.heap.size → k ≠ l → k ≠ a → w5.heap[k]? = W3.heap[k]? := fun k hk n1 n2 => k8.keep k hk (fun h => by rcases h with h | h; exact n1 h; exact n2 h)
  obtain ⟨CL1, hcl1⟩ := k1.l_ty
  obtain ⟨CA1, hca1⟩ := k1.a_ty
  have hq5 : w5.heap[q]? = some (splitTop (nd q) A (.sp l a 8 [])).obj := by rw [kp5 q (by omega) (by omega) (by omega)]; exact htop.obj
  have nl : cl'.l ≠ q := ne_of_type hcl1 hq5 (CL.sty_ne _).1
  have na : cl'.a ≠ q := ne_of_type hca1 hq5 (by decide)
  have kp6 : ∀ k, k ≠ q → (w5.setCell ⟨q, 4, none⟩ cl'.val).heap[k]? = w5.heap[k]? := fun k h => heap_set_ne h _
  have hs6 : (w5.setCell ⟨q, 4, none⟩ cl'.val).heap.size = w5.heap.size := by simp
  have hxlt := lt_of_heap hlow.obj
  have hclb : W.heap.size ≤ cl'.l ∧ cl'.l < w5.heap.size := ⟨by rcases k4 with h | h <;> omega, k1.lt.1⟩
  have hcab : W.heap.size ≤ cl'.a ∧ cl'.a < w5.heap.size := ⟨by rcases k5 with h | h <;> omega, k1.lt.2⟩
  have hpl : cl'.placed (fun c => (upd (upd nd q (splitTop (nd q) A cl')) x (splitLow (nd q) A B) c).fb) := by
    refine placed_perm k3 (fun c hc => ?_)
    rw [hk] at hc
    simp at hc
    subst hc
    rw [upd_self]
    simp [fbY, Nd.fb, splitLow]
  have I' := TA0.T.I.split (q := q) (x := x) (A := A) (B := B) (u := u) (cl' := cl') hq hxN hnp H.px H.hB hA hu hk hpl (fun p hp h => by have := (ltN p hp).2.1; omega) (fun p hp h => by have := (ltN p hp).2.2.1; omega)
  have nx : ∀ {p}, N p → p ≠ x := fun {p} hp h => hxN (h ▸ hp)
  have ex : upd (upd nd q (splitTop (nd q) A cl')) x (splitLow (nd q) A B) x = splitLow (nd q) A B := upd_self _ _ _
  have eq' : upd (upd nd q (splitTop (nd q) A cl')) x (splitLow (nd q) A B) q = splitTop (nd q) A cl' := by rw [upd_ne _ _ hqx, upd_self]
  have eo : ∀ p, N p → p ≠ q → upd (upd nd q (splitTop (nd q) A cl')) x (splitLow (nd q) A B) p = nd p := fun p hp h => by rw [upd_ne _ _ (nx hp), upd_ne _ _ h]
  have wx : upd (upd wd q (u ++ A)) x (wd q) x = wd q := upd_self _ _ _
  have wq : upd (upd wd q (u ++ A)) x (wd q) q = u ++ A := by rw [upd_ne _ _ hqx, upd_self]
  have wo : ∀ p, N p → p ≠ q → upd (upd wd q (u ++ A)) x (wd q) p = wd p := fun p hp h => by rw [upd_ne _ _ (nx hp), upd_ne _ _ h]
  have hMA := inside_none TA0 hq H.px H.hB hA hu
  generalize upd (upd nd q (splitTop (nd q) A cl')) x (splitLow (nd q) A B) = nd' at *
  generalize upd (upd wd q (u ++ A)) x (wd q) = wd' at *
  have fr3 : ∀ p d, HN W3 p d → p ≠ q → p ≠ l → p ≠ a → d.cl.l ≠ q → d.cl.l ≠ l → d.cl.l ≠ a → d.cl.a ≠ q → d.cl.a ≠ l → d.cl.a ≠ a → d.sb ≠ q → d.sb ≠ l → d.sb ≠ a → d.sb < W3.heap.size → HN (w5.setCell ⟨q, 4, none⟩ cl'.val) p d := by
    intro p d h a1 a2 a3 b1 b2 b3 c1 c2 c3 d1 d2 d3 d4
    exact h.frame ((kp6 p a1).trans (kp5 p (lt_of_heap h.obj) a2 a3)) ((kp6 _ b1).trans (kp5 _ h.raw.lt.1 b2 b3)) ((kp6 _ c1).trans (kp5 _ h.raw.lt.2 c2 c3)) ((kp6 _ d1).trans (kp5 _ d4 d2 d3))
  obtain ⟨q1, q2, q3, q4⟩ := ltN q hq
  refine ⟨fun k => O k ∨ (W.heap.size ≤ k ∧ k < w5.heap.size), (nd' t).px, (nd' t).mp, ?_, ⟨⟨I', ?_, ?_⟩, ⟨?_, ?_⟩, ?_, ?_, rfl, rfl⟩, fun k h => by rw [hs6]; exact h, ?_, ?_, hk⟩
  · by_cases h : t = q
    · subst h; left; rw [eq']; rfl
    · right; rw [eo t TA0.T.I.root_mem h]; exact TA0.mp
  · rintro p (hp | rfl)
    · by_cases hpq : p = q
      · subst hpq
        rw [eq']
        refine ⟨?_, k1.frame (kp6 _ nl) (kp6 _ na), htop.le, fun h => ?_⟩
        · rw [heap_set hq5]; rfl
        · obtain ⟨C, fr, b1, b2, b3, b4⟩ := htop.blk h
          have hs : (w5.setCell ⟨p, 4, none⟩ cl'.val).heap[(nd p).sb]? = W3.heap[(nd p).sb]? := (kp6 _ (TA0.T.s_ne hp hp)).trans (kp5 _ (by omega) (by omega) (by omega))
          exact ⟨C, fr, hs.trans b1, b2, fun i hi => by show (w5.setCell ⟨p, 4, none⟩ cl'.val).frozen? ⟨(nd p).sb, i, none⟩ = false; rw [frozen_same hs]; exact b3 i hi, b4⟩
      · rw [eo p hp hpq]
        obtain ⟨g1, g2, g3, g4⟩ := ltN p hp
        exact fr3 p _ (hoth p hp hpq) hpq (by omega) (by omega) (TA0.T.l_ne hp hq) (by omega) (by omega) (TA0.T.a_ne hp hq) (by omega) (by omega) (TA0.T.s_ne hp hq) (by omega) (by omega) (by omega)
    · rw [ex]
      exact fr3 _ _ hlow hqx.symm (by omega) (by omega) (TA0.T.l_ne hq hq) (by show (nd q).cl.l ≠ l; omega) (by show (nd q).cl.l ≠ a; omega) (TA0.T.a_ne hq hq) (by show (nd q).cl.a ≠ l; omega) (by show (nd q).cl.a ≠ a; omega) (TA0.T.s_ne hq hq) (by show (nd q).sb ≠ l; omega) (by show (nd q).sb ≠ a; omega) (by show (nd q).sb < _; omega)
  · by_cases h : t = q
    · subst h; rw [eq']; rfl
    · rw [eo t TA0.T.I.root_mem h]; exact TA0.T.rn
  · rintro p (hp | rfl)
    · by_cases hpq : p = q
      · subst hpq; rw [wq, eq', hMA]; rfl
      · rw [wo p hp hpq, eo p hp hpq]; exact TA0.C.at_ p hp
    · rw [wx, ex]; exact TA0.C.at_ q hq
  · intro k hk
    obtain ⟨p, hp, e⟩ := TA0.C.of k hk
    by_cases hpq : p = q
    · subst hpq; exact ⟨x, .inr rfl, by rw [wx]; exact e⟩
    · exact ⟨p, .inl hp, by rw [wo p hp hpq]; exact e⟩
  · obtain ⟨o1, o2, o3, o4⟩ := TA0.own q hq
    rintro p (hp | rfl)
    · by_cases hpq : p = q
      · subst hpq
        rw [eq']
        exact ⟨.inl o1, .inr hclb, .inr hcab, .inl o4⟩
      · rw [eo p hp hpq]
        obtain ⟨o1, o2, o3, o4⟩ := TA0.own p hp
        exact ⟨.inl o1, .inl o2, .inl o3, .inl o4⟩
    · rw [ex]
      exact ⟨.inr ⟨by omega, by omega⟩, .inl o2, .inl o3, .inl o4⟩
  · intro k hk
    rw [hs6]
    rcases hk with h | h
    · have := TA0.lt k h; omega
    · exact h.2
  · exact (hT3.trans k8 (T := O) (fun b hb h => by rcases h with h | h <;> omega)).setCell _ _ (fun _ => (TA0.own q hq).1)
  · intro L
    rintro p (hp | rfl) hne
    · rw [eo p hp hne]; exact L p hp
    · rw [ex]; exact L q hq

end

section
variable {w w' : World} {t : Nat} {mp : Int} {rp : List UInt8} {M : List UInt8 → Option Int} {O : Nat → Prop} {N : Nat → Prop} {nd : Nat → Nd} {wd : Nat → List UInt8} {S : Nat → List UInt8} {sh : Nat → Nat}

/-- The trie behind a join and replace. -/
theorem join_TAG (A : TA w t mp rp M O N nd wd S sh) (L : Lf 1 N nd) {P p c : Nat} {d' : Nd} (hP : N P) (hp : p ∈ (nd P).cl.kids) (J : Joined w w' O N nd p c d') {w2 : World} {e : Ending} (R : RepP w' (fun x => (nd x).fb) (nd P).cl p c e w2) :
    ∃ cl' S2 sh2 O2, (∀ x, x ∈ cl'.kids ↔ (x ∈ (nd P).cl.kids ∧ x ≠ p) ∨ x = c) ∧ TA w2 t mp rp M O2 (fun x => N x ∧ x ≠ p) (upd (upd nd P { nd P with cl := cl' }) c d') wd S2 sh2 ∧ Lf 1 (fun x => N x ∧ x ≠ p) (upd (upd nd P { nd P with cl := cl' }) c d') ∧ (∀ k, O2 k → O k ∨ (w.heap.size ≤ k ∧ k < w2.heap.size)) ∧ Tch w w2 O := by
  obtain ⟨hpN, hpr, hpw, hpx⟩ := A.T.I.kid P hP p hp
  have hcp : c ∈ (nd p).cl.kids := by rw [J.one]; simp
  obtain ⟨hcN, hcr, hcw, hcx⟩ := A.T.I.kid p hpN c hcp
  have l1 := A.T.I.kid_longer hP hp
  have l2 := A.T.I.kid_longer hpN hcp
  have hPc : P ≠ c := fun h => by rw [h] at l1; omega
  have hPp : P ≠ p := fun h => by rw [h] at l1; omega
  have hpc : p ≠ c := fun h => by rw [h] at l2; omega
  have ckP : c ∉ (nd P).cl.kids := fun h => by
    have := A.T.I.par_unique hP hpN h hcp
    rw [this] at l1; omega
  obtain ⟨cl', r, _, hraw, hperm, hperm', hpl, hl, ha, hval, hT2⟩ := R
  have hnd0 := A.T.I.nodup P hP
  have hnr := hperm.nodup_iff.1 hnd0
  rw [List.nodup_cons] at hnr
  have cr : c ∉ r := fun h => ckP (hperm.mem_iff.2 (List.mem_cons_of_mem _ h))
  have km : ∀ x, x ∈ cl'.kids ↔ (x ∈ (nd P).cl.kids ∧ x ≠ p) ∨ x = c := fun x => by
    rw [hperm'.mem_iff, hperm.mem_iff, List.mem_cons, List.mem_cons]
    constructor
    · rintro (h | h)
      · exact .inr h
      · exact .inl ⟨.inr h, fun e => hnr.1 (e ▸ h)⟩
    · rintro (⟨h | h, h2⟩ | h)
      · exact absurd h h2
      · exact .inr h
      · exact .inl h
  have hnd' : cl'.kids.Nodup := hperm'.nodup_iff.2 (List.nodup_cons.2 ⟨cr, hnr.2⟩)
  have ec : upd (upd nd P { nd P with cl := cl' }) c d' c = d' := upd_self _ _ _
  have eP : upd (upd nd P { nd P with cl := cl' }) c d' P = { nd P with cl := cl' } := by rw [upd_ne _ _ hPc, upd_self]
  have eo : ∀ x, x ≠ P → x ≠ c → upd (upd nd P { nd P with cl := cl' }) c d' x = nd x := fun x h1 h2 => by rw [upd_ne _ _ h2, upd_ne _ _ h1]
  have hpl' : cl'.placed (fun x => (upd (upd nd P { nd P with cl := cl' }) c d' x).fb) := by
    refine placed_perm hpl (fun x hx => ?_)
    by_cases h1 : x = c
    · subst h1
      rw [ec, if_pos rfl, J.fb hpx]
    · rw [if_neg h1]
      have h2 : x ≠ P := fun e => by
        rcases (km x).1 hx with h | h
        · have := A.T.I.kid_longer hP h.1; rw [e] at this; omega
        · exact h1 h
      rw [eo x h2 h1]
  obtain ⟨S2, sh2, I2⟩ := A.T.I.join hP hp J.one J.np J.px J.cl J.laid km hnd' hpl' (fun x hx hxP _ h => by rw [hl] at h; exact hxP (A.T.I.sepl x P hx hP h)) (fun x hx hxP _ h => by rw [ha] at h; exact hxP (A.T.I.sepa x P hx hP h))
  have hTT : Tch w w2 O := J.T.trans hT2 (fun b _ h => by rw [h]; exact (A.own P hP).2.2.1)
  -- blocks behind replace
  have s1 := J.T.size
  have keep2 : ∀ k, k < w'.heap.size → k ≠ (nd P).cl.a → w2.heap[k]? = w'.heap[k]? := fun k hk h => hT2.keep k hk h
  have lt' : ∀ k, k < w.heap.size → k < w'.heap.size := fun k h => by omega
  refine ⟨cl', S2, sh2, fun k => O k ∨ k = d'.sb, km, ⟨⟨I2, ?_, ?_⟩, ⟨?_, ?_⟩, ?_, ?_, ?_, ?_⟩, ?_, ?_, hTT⟩
  · rintro x ⟨hx, hxp⟩
    obtain ⟨o1, o2, o3, o4⟩ := A.own x hx
    by_cases h1 : x = c
    · subst h1
      rw [ec]
      refine J.here.frame (keep2 _ (lt' _ (A.lt _ o1)) (A.T.a_ne hP hx).symm) ?_ ?_ ?_
      · rw [J.cl]; exact keep2 _ (lt' _ (A.lt _ o2)) (A.T.la_ne hx hP)
      · rw [J.cl]; exact keep2 _ (lt' _ (A.lt _ o3)) (fun h => hPc (A.T.I.sepa x P hx hP h).symm)
      · obtain ⟨C, fr, b1, _⟩ := J.here.blk J.np
        obtain ⟨D, b2⟩ := (J.rest P hP hPc).raw.a_ty
        exact keep2 _ (lt_of_heap b1) (ne_of_type b1 b2 (by decide))
    · by_cases h2 : x = P
      · subst h2
        rw [eP]
        have hN := J.rest x hx hPc
        refine ⟨?_, hraw, hN.le, fun hn => ?_⟩
        · rw [keep2 _ (lt' _ (A.lt _ o1)) (A.T.a_ne hx hx).symm, hN.obj]
          unfold Nd.obj
          rw [show ({ nd x with cl := cl' } : Nd).cl.val = (nd x).cl.val from hval]
          rfl
        · obtain ⟨C, fr, b1, b2, b3, b4⟩ := hN.blk hn
          have hs := keep2 _ (lt' _ (A.lt _ o4)) (A.T.sa_ne hx hx)
          exact ⟨C, fr, hs.trans b1, b2, fun i hi => by rw [frozen_same hs]; exact b3 i hi, b4⟩
      · rw [eo x h2 h1]
        exact (J.rest x hx h1).frame (keep2 _ (lt' _ (A.lt _ o1)) (A.T.a_ne hP hx).symm) (keep2 _ (lt' _ (A.lt _ o2)) (A.T.la_ne hx hP)) (keep2 _ (lt' _ (A.lt _ o3)) (fun h => h2 (A.T.I.sepa x P hx hP h))) (keep2 _ (lt' _ (A.lt _ o4)) (A.T.sa_ne hx hP))
  · by_cases h2 : t = P
    · subst h2; rw [eP]; exact A.T.rn
    · rw [eo t h2 (fun e => hcr e.symm)]; exact A.T.rn
  · rintro x ⟨hx, hxp⟩
    by_cases h1 : x = c
    · subst h1; rw [ec, J.it, A.C.at_ x hx, J.itc]
    · by_cases h2 : x = P
      · subst h2; rw [eP]; exact A.C.at_ x hx
      · rw [eo x h2 h1]; exact A.C.at_ x hx
  · intro k hk
    obtain ⟨x, hx, e⟩ := A.C.of k hk
    refine ⟨x, ⟨hx, fun h => ?_⟩, e⟩
    subst h
    rw [← e, A.C.at_ x hx, J.itp] at hk
    exact hk rfl
  · rintro x ⟨hx, hxp⟩
    obtain ⟨o1, o2, o3, o4⟩ := A.own x hx
    by_cases h1 : x = c
    · subst h1; rw [ec, J.cl]; exact ⟨.inl o1, .inl o2, .inl o3, .inr rfl⟩
    · by_cases h2 : x = P
      · subst h2; rw [eP]; exact ⟨.inl o1, .inl (by show O cl'.l; rw [hl]; exact o2), .inl (by show O cl'.a; rw [ha]; exact o3), .inl o4⟩
      · rw [eo x h2 h1]; exact ⟨.inl o1, .inl o2, .inl o3, .inl o4⟩
  · intro k hk
    have s2 := hT2.size
    rcases hk with h | h
    · have := A.lt k h; omega
    · obtain ⟨C, fr, b1, _⟩ := J.here.blk J.np
      have := lt_of_heap b1
      rw [h]; omega
  · by_cases h2 : t = P
    · subst h2; rw [eP]; exact A.mp
    · rw [eo t h2 (fun e => hcr e.symm)]; exact A.mp
  · by_cases h2 : t = P
    · subst h2; rw [eP]; exact A.rp
    · rw [eo t h2 (fun e => hcr e.symm)]; exact A.rp
  · rintro x ⟨hx, hxp⟩
    by_cases h1 : x = c
    · subst h1
      rw [ec, J.cl, J.it]
      rcases L x hx with h | h
      · exact absurd J.itc h
      · exact .inr h
    · by_cases h2 : x = P
      · subst h2
        rw [eP]
        right
        show 1 ≤ cl'.kids.length
        rw [hperm'.length_eq]; simp
      · rw [eo x h2 h1]; exact L x hx
  · intro k hk
    rcases hk with h | h
    · exact .inl h
    · have s2 := hT2.size
      rcases J.sb with h' | h'
      · rw [h]; exact .inl h'
      · rw [h]; exact .inr ⟨h'.1, by omega⟩

end

section
variable {W w2 w3 w5 : World} {t : Nat} {mp : Int} {rp : List UInt8} {M : List UInt8 → Option Int} {O : Nat → Prop} {N : Nat → Prop} {nd : Nat → Nd} {wd : Nat → List UInt8} {S : Nat → List UInt8} {sh : Nat → Nat} {q x y l a c : Nat} {A B u : List UInt8}

/-- What a split leaves, before the rest of the key is put. -/
def SplitR (W : World) (t : Nat) (mp : Int) (M : List UInt8 → Option Int) (O : Nat → Prop) (q : Nat) (u A B : List UInt8) (W6 : World) : Prop :=
  ∃ O6 rp6 mp6 N6 nd6 wd6 S6 sh6, (mp6 = 10 ∨ mp6 = mp) ∧ TA W6 t mp6 rp6 M O6 N6 nd6 wd6 S6 sh6 ∧ N6 q ∧ LfX 1 N6 nd6 q ∧ (nd6 q).it = none ∧ wd6 q = u ++ A ∧ (∀ c, c ∈ (nd6 q).cl.kids → (nd6 c).fb = B.headD 0) ∧
    (∀ k, O6 k → O k ∨ (W.heap.size ≤ k ∧ k < W6.heap.size)) ∧ Tch W W6 O

theorem split_self (H : SplitH W w2 N nd q x y l a A B) (TA0 : TA W t mp rp M O N nd wd S sh) (L : Lf 1 N nd) (hu : wd q = u ++ (nd q).px) (hA : A ≠ [] ∨ q = t) {cl' : CL} {n : Nat}
    (hadd : CLraw w5 cl' ∧ cl'.kids.Perm (x :: (CL.sp l a 8 []).kids) ∧ cl'.placed (fbY nd x (B.headD 0)) ∧ (cl'.l = l ∨ w2.heap.size ≤ cl'.l) ∧ (cl'.a = a ∨ w2.heap.size ≤ cl'.a) ∧ Tch ((splitW w2 q x l (nd q) A.length).drewN n) w5 (fun k => k = l ∨ k = a)) :
    SplitR W t mp M O q u A B (w5.setCell ⟨q, 4, none⟩ cl'.val) := by
  obtain ⟨O', rp', mp', hmp, h1, h2, h3, h4, h5⟩ := split_taG H TA0 hu hA hadd
  have hqx : q ≠ x := fun h => by have := lt_of_heap (TA0.T.H q H.hq).obj; have := H.hx; omega
  have eq' : upd (upd nd q (splitTop (nd q) A cl')) x (splitLow (nd q) A B) q = splitTop (nd q) A cl' := by rw [upd_ne _ _ hqx, upd_self]
  refine ⟨O', rp', mp', _, _, _, _, _, hmp, h1, .inl H.hq, h4 L, by rw [eq']; rfl, by rw [upd_ne _ _ hqx, upd_self], fun c hc => ?_, h2, h3⟩
  rw [eq'] at hc
  have hc' : c ∈ cl'.kids := hc
  rw [h5] at hc'
  simp at hc'
  subst hc'
  rw [upd_self]
  rfl

/-- compact of the lower part. -/
theorem split_compactG (H : SplitH W w2 N nd q x y l a A B) (TA0 : TA W t mp rp M O N nd wd S sh) :
    Calls Try.prog 68 #[ptr x] (splitW w2 q x l (nd q) A.length) (CompactP (splitW w2 q x l (nd q) A.length) x (splitLow (nd q) A B) nd) := by
  have hx := H.hx
  have hnp := TA0.T.np H.hq
  refine compact_any _ x (splitLow (nd q) A B) nd (H.low TA0) hnp (fun c hc => ?_) ?_
  · have hc' : c ∈ (nd q).cl.kids := hc
    obtain ⟨h1, h2, h3, h4⟩ := TA0.T.I.kid q H.hq c hc'
    have hcq : c ≠ q := fun h => by have := TA0.T.I.kid_longer H.hq hc'; rw [h] at this; omega
    have := lt_of_heap (TA0.T.H c h1).obj
    have hpl := TA0.T.pxl h1
    exact ⟨H.other TA0 h1 hcq, TA0.T.np h1, by omega, by omega, h4⟩
  · have := TA0.T.pxl H.hq
    rw [H.px, List.length_append] at this
    show B.length ≤ 1000
    omega

/-- A world as if the upper part's new list held the lower part already. -/
def vW (w : World) (q l a x : Nat) : World := ((w.setCell ⟨a, 0, none⟩ (ptr x)).setCell ⟨l, 0, none⟩ (.slice (some ⟨a, 0, none⟩) 1 8)).setCell ⟨q, 4, none⟩ (CL.sp l a 8 [x]).val

theorem vW_at {w : World} {d : Nd} {v0 : Value} {C : Array Value} (hl : w.heap[l]? = some (.cells #[v0] 105 (0, 0))) (ha : w.heap[a]? = some (.cells C 50 (0, 0))) (hq : w.heap[q]? = some (splitTop d A (.sp l a 8 [])).obj) (hla : l ≠ a) (hlq : l ≠ q) (haq : a ≠ q) :
    (vW w q l a x).heap[l]? = some (.cells #[.slice (some ⟨a, 0, none⟩) 1 8] 105 (0, 0)) ∧ (vW w q l a x).heap[a]? = some (.cells (C.setIfInBounds 0 (ptr x)) 50 (0, 0)) ∧ (vW w q l a x).heap[q]? = some (splitTop d A (.sp l a 8 [x])).obj ∧
      (∀ k, k ≠ l → k ≠ a → k ≠ q → (vW w q l a x).heap[k]? = w.heap[k]?) ∧ (vW w q l a x).heap.size = w.heap.size := by
  unfold vW
  refine ⟨?_, ?_, ?_, fun k h1 h2 h3 => ?_, by simp⟩
  · rw [heap_set_ne hlq, heap_set (i := 0) (C := #[v0]) (by rw [heap_set_ne hla]; exact hl)]; rfl
  · rw [heap_set_ne haq, heap_set_ne hla.symm, heap_set ha]
  · rw [heap_set (i := 4) (C := #[(splitTop d A (.sp l a 8 [])).pv, itv (splitTop d A (.sp l a 8 [])).it, .int .i64 (splitTop d A (.sp l a 8 [])).mp, .int .i64 (splitTop d A (.sp l a 8 [])).mc, (CL.sp l a 8 []).val]) (by rw [heap_set_ne hlq.symm, heap_set_ne haq.symm]; exact hq)]; rfl
  · rw [heap_set_ne h3, heap_set_ne h1, heap_set_ne h2]

set_option maxHeartbeats 1600000 in
/-- The lower part has been joined with its one child: that one goes into the new list. -/
theorem split_join (H : SplitH W w2 N nd q x y l a A B) (TA0 : TA W t mp rp M O N nd wd S sh) (L : Lf 1 N nd) (hu : wd q = u ++ (nd q).px) (hA : A ≠ [] ∨ q = t) {e : Ending} (J : JoinP (splitW w2 q x l (nd q) A.length) x c (splitLow (nd q) A B) (nd c) e w3) :
    e = .returned (ptr c) ∧ CLraw w3 (.sp l a 8 []) ∧ w3.heap[q]? = some (splitTop (nd q) A (.sp l a 8 [])).obj ∧
      ∀ e5 w5, AddX w3 l a 8 [] c e5 w5 → SplitR W t mp M O q u A B (w5.setCell ⟨q, 4, none⟩ (CL.sp l a 8 [c]).val) := by
  have hx := H.hx
  have hxl := H.hl
  have hxa := H.ha
  have hq := H.hq
  have hqo := (TA0.T.H q hq).obj
  have hql := lt_of_heap hqo
  have hqx : q ≠ x := by omega
  have htop := H.top TA0
  obtain ⟨rl, _, _, C, ra, rC, _⟩ := htop.raw
  have hsz : (splitW w2 q x l (nd q) A.length).heap.size = w2.heap.size := splitW_size
  have hw2 := H.T.size
  have htq := htop.obj
  have hwr : ∀ k, k < W.heap.size → k ≠ q → (splitW w2 q x l (nd q) A.length).heap[k]? = W.heap[k]? := fun k h1 h2 => H.keep h1 h2
  have hTw := splitW_tch (w2 := w2) (q := q) (x := x) (l := l) (d := nd q) (c := A.length)
  have hlw := lt_of_heap rl
  have haw := lt_of_heap ra
  obtain ⟨je, hone, hit, hitc, hJ⟩ := J
  have hone' : (nd q).cl.kids = [c] := hone
  have hck : c ∈ (nd q).cl.kids := by rw [hone']; simp
  obtain ⟨hcN, _, _, _⟩ := TA0.T.I.kid q hq c hck
  have hcq : c ≠ q := fun h => by have := TA0.T.I.kid_longer hq hck; rw [h] at this; omega
  have hcl := TA0.lt _ (TA0.own c hcN).1
  have hsb := TA0.lt _ (TA0.own q hq).2.2.2
  have hsq : (nd q).sb ≠ q := TA0.T.s_ne hq hq
  have hla : l ≠ a := ne_of_type rl ra (by decide)
  have hlq : l ≠ q := by omega
  have haq : a ≠ q := by omega
  -- the virtual trie
  have hadd : CLraw (((splitW w2 q x l (nd q) A.length).setCell ⟨a, 0, none⟩ (ptr x)).setCell ⟨l, 0, none⟩ (.slice (some ⟨a, 0, none⟩) 1 8)) (.sp l a 8 [x]) ∧ (CL.sp l a 8 [x]).kids.Perm (x :: (CL.sp l a 8 []).kids) ∧ (CL.sp l a 8 [x]).placed (fbY nd x (B.headD 0)) ∧
      ((CL.sp l a 8 [x]).l = l ∨ w2.heap.size ≤ (CL.sp l a 8 [x]).l) ∧ ((CL.sp l a 8 [x]).a = a ∨ w2.heap.size ≤ (CL.sp l a 8 [x]).a) ∧ Tch ((splitW w2 q x l (nd q) A.length).drewN 0) (((splitW w2 q x l (nd q) A.length).setCell ⟨a, 0, none⟩ (ptr x)).setCell ⟨l, 0, none⟩ (.slice (some ⟨a, 0, none⟩) 1 8)) (fun k => k = l ∨ k = a) := by
    refine ⟨⟨?_, by simp, by omega, C.setIfInBounds 0 (ptr x), ?_, by simp [rC], fun i d hi => ?_⟩, List.Perm.refl _, trivial, .inl rfl, .inl rfl, ?_⟩
    · rw [heap_set (i := 0) (C := #[.slice (some ⟨a, 0, none⟩) 0 8]) (by rw [heap_set_ne hla]; exact rl)]; rfl
    · rw [heap_set_ne hla.symm, heap_set ra]
    · have : i = 0 := by
        rcases Nat.lt_or_ge 0 i with h | h
        · rw [List.getElem?_eq_none (by simp; omega)] at hi; cases hi
        · omega
      subst this
      simp at hi
      subst hi
      rw [Array.getElem?_setIfInBounds_self, if_pos (by omega)]
    · exact ⟨rfl, rfl, rfl, by show (splitW w2 q x l (nd q) A.length).heap.size ≤ _; simp, fun k _ hk => by rw [heap_set_ne (fun h => hk (.inl h)), heap_set_ne (fun h => hk (.inr h))]; rfl⟩
  obtain ⟨O', rp', mp', hmp, TAv, hOv, hTv, hLv, _⟩ := split_taG H TA0 hu hA hadd
  have hTv : Tch W (vW (splitW w2 q x l (nd q) A.length) q l a x) O := hTv
  have hOv : ∀ k, O' k → O k ∨ (W.heap.size ≤ k ∧ k < (vW (splitW w2 q x l (nd q) A.length) q l a x).heap.size) := hOv
  have TAv : TA (vW (splitW w2 q x l (nd q) A.length) q l a x) t mp' rp' M O' (fun y => N y ∨ y = x) (upd (upd nd q (splitTop (nd q) A (.sp l a 8 [x]))) x (splitLow (nd q) A B)) (upd (upd wd q (u ++ A)) x (wd q)) S sh := TAv
  have ex : upd (upd nd q (splitTop (nd q) A (.sp l a 8 [x]))) x (splitLow (nd q) A B) x = splitLow (nd q) A B := upd_self _ _ _
  have eq' : upd (upd nd q (splitTop (nd q) A (.sp l a 8 [x]))) x (splitLow (nd q) A B) q = splitTop (nd q) A (.sp l a 8 [x]) := by rw [upd_ne _ _ hqx, upd_self]
  have ec : upd (upd nd q (splitTop (nd q) A (.sp l a 8 [x]))) x (splitLow (nd q) A B) c = nd c := by rw [upd_ne _ _ (by omega), upd_ne _ _ hcq]
  have wq : upd (upd wd q (u ++ A)) x (wd q) q = u ++ A := by rw [upd_ne _ _ hqx, upd_self]
  have Lv : Lf 1 (fun y => N y ∨ y = x) (upd (upd nd q (splitTop (nd q) A (.sp l a 8 [x]))) x (splitLow (nd q) A B)) := by
    intro p hp
    by_cases h : p = q
    · subst h; rw [eq']; right; exact Nat.le_refl _
    · exact hLv L p hp h
  generalize upd (upd nd q (splitTop (nd q) A (.sp l a 8 [x]))) x (splitLow (nd q) A B) = nd' at *
  generalize upd (upd wd q (u ++ A)) x (wd q) = wd' at *
  generalize splitW w2 q x l (nd q) A.length = Wr at *
  have va := vW_at (x := x) rl ra htq hla hlq haq
  -- what compact has touched
  have hT3 : Tch Wr w3 (fun k => k = c ∨ k = (nd q).sb) := by
    rcases hJ with ⟨_, _, _, h⟩ | ⟨_, _, _, _, _, _, _, _, _, h⟩
    · exact h
    · exact h.mono (fun _ _ h => .inl h)
  have kl : w3.heap[l]? = Wr.heap[l]? := hT3.keep l hlw (fun h => by rcases h with h | h <;> omega)
  have ka : w3.heap[a]? = Wr.heap[a]? := hT3.keep a haw (fun h => by rcases h with h | h <;> omega)
  have kq : w3.heap[q]? = Wr.heap[q]? := hT3.keep q (lt_of_heap htq) (fun h => by rcases h with h | h; exact hcq h.symm; exact hsq h.symm)
  have v3 := vW_at (x := x) (kl.trans rl) (ka.trans ra) (kq.trans htq) hla hlq haq
  have hraw3 : CLraw w3 (.sp l a 8 []) := ⟨kl.trans rl, by simp, by omega, C, ka.trans ra, rC, fun i d h => by simp at h⟩
  refine ⟨je, hraw3, kq.trans htq, fun e5 w5 hX => ?_⟩
  have hcl' : c ≠ l ∧ c ≠ a := ⟨by omega, by omega⟩
  have hsl : (nd q).sb ≠ l ∧ (nd q).sb ≠ a := ⟨by omega, by omega⟩
  have hTV : ∀ T : Nat → Prop, Tch Wr w3 T → (∀ k, T k → k ≠ l ∧ k ≠ a ∧ k ≠ q) → Tch (vW Wr q l a x) (vW w3 q l a x) T := fun T hT hne => by
    refine ⟨hT.os, hT.tape, hT.output, by rw [va.2.2.2.2, v3.2.2.2.2]; exact hT.size, fun k hk hn => ?_⟩
    rw [va.2.2.2.2] at hk
    by_cases h1 : k = l
    · subst h1; rw [va.1, v3.1]
    · by_cases h2 : k = a
      · subst h2; rw [va.2.1, v3.2.1]
      · by_cases h3 : k = q
        · subst h3; rw [va.2.2.1, v3.2.2.1]
        · rw [va.2.2.2.1 k h1 h2 h3, v3.2.2.2.1 k h1 h2 h3]; exact hT.keep k hk hn
  have JV : JoinP (vW Wr q l a x) x c (nd' x) (nd' c) e (vW w3 q l a x) := by
    rw [ex, ec]
    refine ⟨je, hone, hit, hitc, ?_⟩
    rcases hJ with ⟨j1, j2, j3, j4⟩ | ⟨g, cap, D, j1, j2, j3, j4, j5, j6, j7⟩
    · refine .inl ⟨j1, (v3.2.2.2.1 c hcl'.1 hcl'.2 hcq).trans j2, fun C fr hC => ?_, hTV _ j4 (fun k hk => by rcases hk with h | h; exact h ▸ ⟨hcl'.1, hcl'.2, hcq⟩; exact h ▸ ⟨hsl.1, hsl.2, hsq⟩)⟩
      obtain ⟨C', i1, i2⟩ := j3 C fr ((va.2.2.2.1 _ hsl.1 hsl.2 hsq).symm.trans hC)
      exact ⟨C', (v3.2.2.2.1 _ hsl.1 hsl.2 hsq).trans i1, i2⟩
    · exact .inr ⟨g, cap, D, by rw [va.2.2.2.2]; exact j1, j2, (v3.2.2.2.1 c hcl'.1 hcl'.2 hcq).trans j3, (v3.2.2.2.1 g (by omega) (by omega) (by omega)).trans j4, j5, j6, hTV _ j7 (fun k hk => hk ▸ ⟨hcl'.1, hcl'.2, hcq⟩)⟩
  obtain ⟨d', J'⟩ := join_mem TAv (.inr rfl) JV
  obtain ⟨_, ⟨x1, x2, x3, D, x4, x5, x6⟩, hT5⟩ := hX
  have hs3 := hT3.size
  have hs5 := hT5.size
  have q5 : w5.heap[q]? = some (splitTop (nd q) A (.sp l a 8 [])).obj := (hT5.keep q (lt_of_heap (kq.trans htq)) (fun h => by rcases h with h | h; exact hlq h.symm; exact haq h.symm)).trans (kq.trans htq)
  have q6 : (w5.setCell ⟨q, 4, none⟩ (CL.sp l a 8 [c]).val).heap[q]? = some (splitTop (nd q) A (.sp l a 8 [x])).obj := by
    rw [heap_set (i := 4) (C := #[(splitTop (nd q) A (.sp l a 8 [])).pv, itv (splitTop (nd q) A (.sp l a 8 [])).it, .int .i64 (splitTop (nd q) A (.sp l a 8 [])).mp, .int .i64 (splitTop (nd q) A (.sp l a 8 [])).mc, (CL.sp l a 8 []).val]) q5]; rfl
  have R : RepP (vW w3 q l a x) (fun y => (nd' y).fb) (nd' q).cl x c (.returned (.tuple #[])) (w5.setCell ⟨q, 4, none⟩ (CL.sp l a 8 [c]).val) := by
    rw [eq']
    refine ⟨.sp l a 8 [c], [], rfl, ⟨by rw [heap_set_ne hlq]; exact x1, x2, x3, D, by rw [heap_set_ne haq]; exact x4, x5, x6⟩, List.Perm.refl _, List.Perm.refl _, trivial, rfl, rfl, rfl, ?_⟩
    refine ⟨hT5.os, hT5.tape, hT5.output, by rw [v3.2.2.2.2]; simpa using hs5, fun k hk hne => ?_⟩
    rw [v3.2.2.2.2] at hk
    have hka : k ≠ a := hne
    by_cases h3 : k = q
    · subst h3; rw [q6, v3.2.2.1]
    · rw [heap_set_ne h3]
      by_cases h1 : k = l
      · subst h1; rw [x1, v3.1]; rfl
      · rw [v3.2.2.2.1 k h1 hka h3]
        exact hT5.keep k hk (fun h => by rcases h with h | h; exact h1 h; exact hka h)
  have hxk : x ∈ (nd' q).cl.kids := by rw [eq']; show x ∈ [x]; simp
  obtain ⟨cl', S2, sh2, O2, km, TA2, L2, hO2, hT2⟩ := join_TAG TAv Lv (.inl hq) hxk J' R
  have hqc : q ≠ c := fun h => hcq h.symm
  have e2q : upd (upd nd' q { nd' q with cl := cl' }) c d' q = { nd' q with cl := cl' } := by rw [upd_ne _ _ hqc, upd_self]
  have e2c : upd (upd nd' q { nd' q with cl := cl' }) c d' c = d' := upd_self _ _ _
  have hvs : W.heap.size ≤ (vW Wr q l a x).heap.size := hTv.size
  refine ⟨O2, rp', mp', _, _, wd', S2, sh2, hmp, TA2, ⟨.inl hq, hqx⟩, L2.x q, by rw [e2q]; show (nd' q).it = none; rw [eq']; rfl, wq, fun c' hc' => ?_, fun k hk => ?_, hTv.trans hT2 (fun b hb h => ?_)⟩
  · rw [e2q] at hc'
    have hc2 : c' ∈ cl'.kids := hc'
    rcases (km c').1 hc2 with ⟨h1, h2⟩ | h
    · rw [eq'] at h1
      have h1 : c' ∈ [x] := h1
      simp at h1
      exact absurd h1 h2
    · subst h
      rw [e2c, J'.fb (by rw [ex]; exact H.hB), ex]; rfl
  · rcases hO2 k hk with h | h
    · rcases hOv k h with h | h
      · exact .inl h
      · have := hT2.size; exact .inr ⟨h.1, by omega⟩
    · exact .inr ⟨by omega, h.2⟩
  · rcases hOv b h with h | h
    · exact h
    · omega
end

end Go.Proofs.Ytmdbnjepajifpaa
