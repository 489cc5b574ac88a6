/- What put leaves where it puts a child beneath a node. -/
import Derived.Test.YtmdbnjepajifpaaFrame
namespace Go.Proofs.Ytmdbnjepajifpaa
open Go.RowKit

theorem FB.later {w w' : World} {p : Nat} {b : UInt8} (h : FB w p b) (hk : ∀ k, k < w.heap.size → w'.heap[k]? = w.heap[k]?) : FB w' p b := by
  obtain ⟨sb, so, n, c, h1, h2, h3⟩ := h
  exact ⟨sb, so, n, c, by rw [World.cell?_of_block (w := w) (hk _ (World.block_lt_of_cell? w _ h1))]; exact h1, h2, by rw [World.cell?_of_block (w := w) (hk _ (World.block_lt_of_cell? w _ h3))]; exact h3⟩
theorem CLraw.lt {w : World} {cl : CL} (h : CLraw w cl) : cl.l < w.heap.size ∧ cl.a < w.heap.size := by
  obtain ⟨C, h1⟩ := h.l_ty
  obtain ⟨D, h2⟩ := h.a_ty
  exact ⟨lt_of_heap h1, lt_of_heap h2⟩
theorem CLraw.later {w w' : World} {cl : CL} (h : CLraw w cl) (hk : ∀ k, k < w.heap.size → w'.heap[k]? = w.heap[k]?) : CLraw w' cl := h.frame (hk _ h.lt.1) (hk _ h.lt.2)
theorem KB.later {w w' : World} {fb : Nat → UInt8} {cl : CL} (h : KB w fb cl) (hk : ∀ k, k < w.heap.size → w'.heap[k]? = w.heap[k]?) : KB w' fb cl := ⟨fun c hc => (h.rd c hc).later hk, h.ne, h.nodup, h.placed⟩
theorem KB.congr {w : World} {fb fb' : Nat → UInt8} {cl : CL} (h : KB w fb cl) (he : ∀ c, c ∈ cl.kids → fb' c = fb c) : KB w fb' cl :=
  ⟨fun c hc => by rw [he c hc]; exact h.rd c hc, fun c d hc hd e => h.ne c d hc hd (by rw [← he c hc, ← he d hd]; exact e), h.nodup, placed_perm h.placed he⟩

/-- The node that put makes. -/
def newNd (kb so sc : Nat) (px : List UInt8) (i : Option Int) (l a cap : Nat) (mp mc : Int) : Nd := { np := false, sb := kb, so := so, sc := sc, px := px, it := i, mp := mp, mc := mc, cl := .sp l a cap [] }
def fbY (nd : Nat → Nd) (y : Nat) (b : UInt8) : Nat → UInt8 := fun x => if x = y then b else (nd x).fb

/-- The call of add in put. -/
theorem put_add_call {w w1 w2 : World} {t : Nat} {mp : Int} {rp : List UInt8} {M : List UInt8 → Option Int} {O : Nat → Prop} {N : Nat → Prop} {nd : Nat → Nd} {wd : Nat → List UInt8} {S : Nat → List UInt8} {sh : Nat → Nat} {q y l a kb so sc n : Nat} {b : UInt8}
    (A : TA w t mp rp M O N nd wd S sh) (hq : N q) (hy : w1.heap.size ≤ y) (hyo : w2.heap[y]? = some (freshNd l a 8 10 8).obj) (hT2 : Tch w1 w2 (fun _ => False)) (h1 : w1.heap = w.heap)
    (hn : 0 < n) (hb : w.cell? ⟨kb, so, none⟩ = some (.int .u8 (b.toNat : Int))) (hno : ∀ c, c ∈ (nd q).cl.kids → (nd c).fb ≠ b) :
    Calls Try.prog ((nd q).cl.fn 112 144) #[.pointer (some ⟨(nd q).cl.l, 0, none⟩), .pointer (some ⟨y, 0, none⟩)] (w2.setCell ⟨y, 0, none⟩ (.slice (some ⟨kb, so, none⟩) n sc))
      (AddP (w2.setCell ⟨y, 0, none⟩ (.slice (some ⟨kb, so, none⟩) n sc)) (fbY nd y b) (nd q).cl y) := by
  have hws : w1.heap.size = w.heap.size := by rw [h1]
  have hk : ∀ k, k < w.heap.size → (w2.setCell ⟨y, 0, none⟩ (.slice (some ⟨kb, so, none⟩) n sc)).heap[k]? = w.heap[k]? := fun k hk => by
    rw [heap_set_ne (by omega), hT2.keep k (by omega) (fun h => h), h1]
  have hyk : ∀ c, c ∈ (nd q).cl.kids → c ≠ y := fun c hc h => by
    have := A.lt _ (A.own c (A.T.I.kid q hq c hc).1).1
    omega
  have hfy : fbY nd y b y = b := by simp [fbY]
  have hfc : ∀ c, c ∈ (nd q).cl.kids → fbY nd y b c = (nd c).fb := fun c hc => by simp [fbY, hyk c hc]
  refine add_any _ (fbY nd y b) (nd q).cl y ((A.T.H q hq).raw.later hk) (((A.T.I.kb A.T.H hq).later hk).congr hfc) ?_ (fun c hc => by rw [hfy, hfc c hc]; exact hno c hc)
  rw [hfy]
  refine ⟨kb, so, n, sc, ?_, hn, ?_⟩
  · rw [cell_of_block (heap_set hyo _)]; rfl
  · rw [World.cell?_of_block (w := w) (hk _ (World.block_lt_of_cell? w _ hb))]; exact hb

/-- The two nodes behind the call of add. -/
theorem put_add_cells {w w1 w2 w4 : World} {t : Nat} {mp : Int} {rp : List UInt8} {M : List UInt8 → Option Int} {O : Nat → Prop} {N : Nat → Prop} {nd : Nat → Nd} {wd : Nat → List UInt8} {S : Nat → List UInt8} {sh : Nat → Nat} {r : List UInt8} {q y l a kb so sc : Nat}
    (A : TA w t mp rp M O N nd wd S sh) (hq : N q) (hy : w1.heap.size ≤ y) (hyo : w2.heap[y]? = some (freshNd l a 8 10 8).obj) (hT2 : Tch w1 w2 (fun _ => False))
    (hT4 : Tch (w2.setCell ⟨y, 0, none⟩ (.slice (some ⟨kb, so, none⟩) r.length sc)) w4 (fun k => k = (nd q).cl.l ∨ k = (nd q).cl.a)) (h1 : w1.heap = w.heap) :
    w4.heap[q]? = some (nd q).obj ∧ w4.heap[y]? = some (newNd kb so sc r none l a 8 10 8).obj := by
  have hws : w1.heap.size = w.heap.size := by rw [h1]
  obtain ⟨o1, o2, o3, _⟩ := A.own q hq
  have l1 := A.lt _ o1
  have l2 := A.lt _ o2
  have l3 := A.lt _ o3
  have hylt := lt_of_heap hyo
  have hs2 : w1.heap.size ≤ w2.heap.size := hT2.size
  constructor
  · rw [hT4.keep q (by simp; omega) (fun h => by rcases h with h | h; exact A.T.l_ne hq hq h.symm; exact A.T.a_ne hq hq h.symm), heap_set_ne (by omega), hT2.keep q (by omega) (fun h => h), h1]
    exact (A.T.H q hq).obj
  · rw [hT4.keep y (by simpa using hylt) (fun h => by rcases h with h | h <;> omega), heap_set hyo]
    rfl

theorem put_add {w w1 w2 w4 w6 : World} {t : Nat} {rp : List UInt8} {M : List UInt8 → Option Int} {O : Nat → Prop} {N : Nat → Prop} {nd : Nat → Nd} {wd : Nat → List UInt8} {S : Nat → List UInt8} {sh : Nat → Nat} {K r : List UInt8} {q y l a kb kc so sc : Nat} {cl' : CL}
    (A : TA w t 10 rp M O N nd wd S sh) (hq : N q) {lf : Nat} (hlf : LfX lf N nd q) (hlq : (nd q).it ≠ none ∨ lf ≤ (nd q).cl.kids.length + 1) (hKA : KeyAt w kb kc K) (hkb : ¬ O kb) (hK : K = wd q ++ r) (hr : r ≠ []) (hK10 : K.length ≤ 10) (hso : so + r.length = K.length) (hsc : so + sc ≤ kc) (hrs : r.length ≤ sc) (i : Int)
    (hno : ∀ c, c ∈ (nd q).cl.kids → (nd c).fb ≠ r.headD 0)
    (h1 : w1.heap = w.heap) (hT1 : Tch w w1 (fun _ => False)) (hy : w1.heap.size ≤ y) (hl : w1.heap.size ≤ l) (ha : w1.heap.size ≤ a) (hyo : w2.heap[y]? = some (freshNd l a 8 10 8).obj) (hraw2 : CLraw w2 (.sp l a 8 [])) (hT2 : Tch w1 w2 (fun _ => False))
    (hraw4 : CLraw w4 cl') (hperm : cl'.kids.Perm (y :: (nd q).cl.kids)) (hpl : cl'.placed (fbY nd y (r.headD 0)))
    (hl' : cl'.l = (nd q).cl.l ∨ w2.heap.size ≤ cl'.l) (ha' : cl'.a = (nd q).cl.a ∨ w2.heap.size ≤ cl'.a)
    (hT4 : Tch (w2.setCell ⟨y, 0, none⟩ (.slice (some ⟨kb, so, none⟩) r.length sc)) w4 (fun k => k = (nd q).cl.l ∨ k = (nd q).cl.a))
    (h6 : w6.heap = ((w4.setCell ⟨q, 4, none⟩ cl'.val).setCell ⟨y, 1, none⟩ (.iface 3 (.int .i64 i))).heap) :
    ∃ O', TA w6 t 10 rp (setM M K (some i)) O' (fun x => N x ∨ x = y) (upd (upd nd q { nd q with cl := cl' }) y (newNd kb so sc r (some i) l a 8 10 8)) (upd wd y (wd q ++ r)) (upd S kb (wd q ++ r)) (upd sh kb 0) ∧
      Lf lf (fun x => N x ∨ x = y) (upd (upd nd q { nd q with cl := cl' }) y (newNd kb so sc r (some i) l a 8 10 8)) ∧
      (∀ k, O' k → O k ∨ k = kb ∨ (w.heap.size ≤ k ∧ k < w6.heap.size)) := by
  obtain ⟨hks, hkc, CK, frK, hk1, hk2, hk3⟩ := hKA
  have hws : w1.heap.size = w.heap.size := by rw [h1]
  have hyN : ¬ N y := fun h => by have := lt_of_heap (A.T.H y h).obj; omega
  have ltN : ∀ p, N p → p < w.heap.size ∧ (nd p).cl.l < w.heap.size ∧ (nd p).cl.a < w.heap.size ∧ (nd p).sb < w.heap.size := fun p hp => by
    obtain ⟨o1, o2, o3, o4⟩ := A.own p hp
    exact ⟨A.lt _ o1, A.lt _ o2, A.lt _ o3, A.lt _ o4⟩
  have hqO := A.own q hq
  have hqlt := ltN q hq
  have hkblt := lt_of_heap hk1
  have hs2 : w1.heap.size ≤ w2.heap.size := hT2.size
  have hylt2 := lt_of_heap hyo
  have hs4 : w2.heap.size ≤ w4.heap.size := by have := hT4.size; simpa using this
  have hs6 : w6.heap.size = w4.heap.size := by rw [h6]; simp
  -- an old block that is none of q's
  have keep4 : ∀ k, k < w.heap.size → k ≠ (nd q).cl.l → k ≠ (nd q).cl.a → w4.heap[k]? = w.heap[k]? := fun k hk n1 n2 => by
    rw [hT4.keep k (by simp; omega) (fun h => by rcases h with h | h; exact n1 h; exact n2 h), heap_set_ne (by omega), hT2.keep k (by omega) (fun h => h), h1]
  have keep6 : ∀ k, k ≠ q → k ≠ y → w6.heap[k]? = w4.heap[k]? := fun k n1 n2 => by rw [h6, heap_set_ne n2, heap_set_ne n1]
  have keep : ∀ k, k < w.heap.size → k ≠ q → k ≠ (nd q).cl.l → k ≠ (nd q).cl.a → w6.heap[k]? = w.heap[k]? := fun k hk n0 n1 n2 => by rw [keep6 k n0 (by omega), keep4 k hk n1 n2]
  have hl4 : l < w4.heap.size := Nat.lt_of_lt_of_le (hraw2.lt.1) hs4
  have ha4 : a < w4.heap.size := Nat.lt_of_lt_of_le (hraw2.lt.2) hs4
  have hsoq : so = (wd q).length := by rw [hK, List.length_append] at hso; omega
  have hcll : cl'.l ≠ l := by
    rcases hl' with h | h
    · omega
    · have := hraw2.lt.1; show cl'.l ≠ (CL.sp l a 8 []).l; omega
  have hcla : cl'.a ≠ a := by
    rcases ha' with h | h
    · omega
    · have := hraw2.lt.2; show cl'.a ≠ (CL.sp l a 8 []).a; omega
  obtain ⟨hcl4, hca4⟩ := hraw4.lt
  have hpl' : cl'.placed (fun c => (upd (upd nd q { nd q with cl := cl' }) y (newNd kb so sc r (some i) l a 8 10 8) c).fb) := by
    refine placed_perm hpl (fun c _ => ?_)
    by_cases hc : c = y
    · subst hc; rw [upd_self]; simp [fbY, newNd, Nd.fb]
    · rw [upd_ne _ _ hc]
      simp only [fbY, if_neg hc]
      by_cases h : c = q
      · subst h; rw [upd_self]; rfl
      · rw [upd_ne _ _ h]
  have I' := A.T.I.addKid (q := q) (y := y) (dy := newNd kb so sc r (some i) l a 8 10 8) (cl' := cl') hq hyN rfl hr rfl trivial hperm hpl' hno
    (by show (wd q).length + r.length ≤ 10; rw [hK, List.length_append] at hK10; exact hK10) hsoq (fun p hp _ h => hkb (by rw [show kb = (nd p).sb from h.symm]; exact (A.own p hp).2.2.2))
    (fun p hp hpq h => by
      rcases hl' with h' | h'
      · rw [h'] at h; exact hpq (A.T.I.sepl p q hp hq h)
      · have := (ltN p hp).2.1; omega)
    (fun p hp => by have := (ltN p hp).2.1; show (nd p).cl.l ≠ l; omega) hcll
    (fun p hp hpq h => by
      rcases ha' with h' | h'
      · rw [h'] at h; exact hpq (A.T.I.sepa p q hp hq h)
      · have := (ltN p hp).2.2.1; omega)
    (fun p hp => by have := (ltN p hp).2.2.1; show (nd p).cl.a ≠ a; omega) hcla
  have hqy : q ≠ y := by omega
  have nyN : ∀ p, N p → p ≠ y := fun p hp e => hyN (e ▸ hp)
  have ety : t ≠ y := fun h => hyN (h ▸ A.T.I.root_mem)
  have eo : ∀ p, N p → p ≠ q → upd (upd nd q { nd q with cl := cl' }) y (newNd kb so sc r (some i) l a 8 10 8) p = nd p := fun p hp h => by
    rw [upd_ne _ _ (nyN p hp), upd_ne _ _ h]
  have eq' : upd (upd nd q { nd q with cl := cl' }) y (newNd kb so sc r (some i) l a 8 10 8) q = { nd q with cl := cl' } := by rw [upd_ne _ _ hqy, upd_self]
  have ey : upd (upd nd q { nd q with cl := cl' }) y (newNd kb so sc r (some i) l a 8 10 8) y = newNd kb so sc r (some i) l a 8 10 8 := upd_self _ _ _
  generalize upd (upd nd q { nd q with cl := cl' }) y (newNd kb so sc r (some i) l a 8 10 8) = nd' at *
  -- blocks of the new list
  obtain ⟨CL1, hcl1⟩ := hraw4.l_ty
  obtain ⟨CA1, hca1⟩ := hraw4.a_ty
  have hq4 : w4.heap[q]? = some (nd q).obj := by
    rw [keep4 q hqlt.1 (A.T.l_ne hq hq).symm (A.T.a_ne hq hq).symm]; exact (A.T.H q hq).obj
  have hy4 : w4.heap[y]? = some ({ newNd kb so sc r none l a 8 10 8 with it := none } : Nd).obj := by
    rw [hT4.keep y (by simpa using hylt2) (fun h => by rcases h with h | h <;> omega), heap_set hyo]
    rfl
  have nl : cl'.l ≠ q ∧ cl'.l ≠ y := ⟨ne_of_type hcl1 hq4 (CL.sty_ne _).1, ne_of_type hcl1 hy4 (CL.sty_ne _).1⟩
  have na : cl'.a ≠ q ∧ cl'.a ≠ y := ⟨ne_of_type hca1 hq4 (by decide), ne_of_type hca1 hy4 (by decide)⟩
  have hl4h : w4.heap[l]? = w2.heap[l]? := by
    have h2 : l < w2.heap.size := hraw2.lt.1
    obtain ⟨C2, k2⟩ : ∃ C, w2.heap[l]? = some (.cells C (CL.sp l a 8 []).sty (0, 0)) := hraw2.l_ty
    rw [hT4.keep l (by simpa using h2) (fun h => by rcases h with h | h <;> omega), heap_set_ne (ne_of_type k2 hyo (CL.sty_ne _).1)]
  have ha4h : w4.heap[a]? = w2.heap[a]? := by
    have h2 : a < w2.heap.size := hraw2.lt.2
    obtain ⟨C2, k2⟩ : ∃ C, w2.heap[a]? = some (.cells C 50 (0, 0)) := hraw2.a_ty
    rw [hT4.keep a (by simpa using h2) (fun h => by rcases h with h | h <;> omega), heap_set_ne (ne_of_type k2 hyo (by decide))]
  have nly : l ≠ y ∧ a ≠ y := by
    obtain ⟨C2, k2⟩ := hraw2.l_ty
    obtain ⟨C3, k3⟩ := hraw2.a_ty
    exact ⟨ne_of_type k2 hyo (CL.sty_ne _).1, ne_of_type k3 hyo (by decide)⟩
  have hkb6 : w6.heap[kb]? = w.heap[kb]? := keep kb hkblt (fun h => hkb (h ▸ hqO.1)) (fun h => hkb (h ▸ hqO.2.1)) (fun h => hkb (h ▸ hqO.2.2.1))
  refine ⟨fun k => O k ∨ k = kb ∨ (w.heap.size ≤ k ∧ k < w6.heap.size), ⟨⟨I', ?_, ?_⟩, ⟨?_, ?_⟩, ?_, ?_, ?_, ?_⟩, ?_, fun k h => h⟩
  · rintro p (hp | rfl)
    · by_cases hpq : p = q
      · subst hpq
        rw [eq']
        have hN := A.T.H p hp
        refine ⟨?_, hraw4.frame (keep6 _ nl.1 nl.2) (keep6 _ na.1 na.2), hN.le, fun hn => ?_⟩
        · rw [h6, heap_set_ne hqy, heap_set hq4]
          rfl
        · obtain ⟨C, fr, b1, b2, b3, b4⟩ := hN.blk hn
          have hs := keep (nd p).sb hqlt.2.2.2 (A.T.s_ne hp hp) (A.T.sl_ne hp hp) (A.T.sa_ne hp hp)
          exact ⟨C, fr, hs.trans b1, b2, fun i hi => by rw [frozen_same hs]; exact b3 i hi, b4⟩
      · rw [eo p hp hpq]
        obtain ⟨g1, g2, g3, g4⟩ := ltN p hp
        exact (A.T.H p hp).frame (keep p g1 hpq (A.T.l_ne hq hp).symm (A.T.a_ne hq hp).symm)
          (keep _ g2 (A.T.l_ne hp hq) (fun h => hpq (A.T.I.sepl p q hp hq h)) (A.T.la_ne hp hq))
          (keep _ g3 (A.T.a_ne hp hq) (A.T.la_ne hq hp).symm (fun h => hpq (A.T.I.sepa p q hp hq h)))
          (keep _ g4 (A.T.s_ne hp hq) (A.T.sl_ne hp hq) (A.T.sa_ne hp hq))
    · rw [ey]
      refine ⟨?_, ?_, hrs, fun _ => ⟨CK, frK, hkb6.trans hk1, by show so + sc ≤ _; omega, fun i hi => by show w6.frozen? ⟨kb, i, none⟩ = false; rw [frozen_same hkb6]; exact hk3 i hi, fun j hj => ?_⟩⟩
      · rw [h6, heap_set (i := 1) (C := #[.slice (some ⟨kb, so, none⟩) r.length sc, .nilIface, .int .i64 10, .int .i64 8, (CL.sp l a 8 []).val]) (by rw [heap_set_ne hqy.symm]; exact hy4)]
        rfl
      · exact hraw2.frame ((keep6 l (by omega) nly.1).trans hl4h) ((keep6 a (by omega) nly.2).trans ha4h)
      · have hj' : j < r.length := hj
        have := hks (so + j) (by omega)
        rw [cell_of_block hk1, Nat.zero_add] at this
        show CK[so + j]? = some (.int .u8 ((r.getD j 0).toNat : Int))
        rw [this, hK, List.getD_eq_getElem?_getD, List.getElem?_append_right (by omega), List.getD_eq_getElem?_getD, hsoq]
        simp
  · by_cases h : t = q
    · subst h; rw [eq']; exact A.T.rn
    · rw [eo t A.T.I.root_mem h]; exact A.T.rn
  · rintro p (hp | rfl)
    · rw [upd_ne _ _ (nyN p hp)]
      have hne : wd p ≠ K := fun e => by
        have := congrArg List.length e
        have hd := A.T.I.desc hq hp (by rw [e, hK]; exact List.prefix_append _ _)
        rcases hd with rfl | ⟨c, hc, hcp⟩
        · rw [hK, List.length_append] at this
          have := List.length_pos_iff.2 hr
          omega
        · have hb := A.T.I.byte_at hq hc hcp
          rw [e, hK, List.getElem?_append_right (Nat.le_refl _), Nat.sub_self] at hb
          apply hno c hc
          cases r with
          | nil => exact absurd rfl hr
          | cons b r' => simp at hb ⊢; exact hb.symm
      simp only [setM, if_neg hne]
      by_cases h : p = q
      · subst h; rw [eq']; exact A.C.at_ p hp
      · rw [eo p hp h]; exact A.C.at_ p hp
    · rw [upd_self, ey, ← hK]; simp [setM, newNd]
  · intro k hk
    by_cases h : k = K
    · exact ⟨y, .inr rfl, by rw [upd_self, h, hK]⟩
    · simp only [setM, if_neg h] at hk
      obtain ⟨p, hp, e⟩ := A.C.of k hk
      exact ⟨p, .inl hp, by rw [upd_ne _ _ (nyN p hp)]; exact e⟩
  · rintro p (hp | rfl)
    · by_cases h : p = q
      · subst h
        rw [eq']
        refine ⟨.inl hqO.1, ?_, ?_, .inl hqO.2.2.2⟩
        · show O cl'.l ∨ cl'.l = kb ∨ (w.heap.size ≤ cl'.l ∧ cl'.l < w6.heap.size)
          rcases hl' with e | e
          · rw [e]; exact .inl hqO.2.1
          · exact .inr (.inr ⟨by omega, by omega⟩)
        · show O cl'.a ∨ cl'.a = kb ∨ (w.heap.size ≤ cl'.a ∧ cl'.a < w6.heap.size)
          rcases ha' with e | e
          · rw [e]; exact .inl hqO.2.2.1
          · exact .inr (.inr ⟨by omega, by omega⟩)
      · rw [eo p hp h]
        obtain ⟨o1, o2, o3, o4⟩ := A.own p hp
        exact ⟨.inl o1, .inl o2, .inl o3, .inl o4⟩
    · rw [ey]
      exact ⟨.inr (.inr ⟨by omega, by omega⟩), .inr (.inr ⟨by show w.heap.size ≤ l; omega, by show l < _; omega⟩), .inr (.inr ⟨by show w.heap.size ≤ a; omega, by show a < _; omega⟩), .inr (.inl rfl)⟩
  · rintro k (hk | rfl | hk)
    · have := A.lt k hk; omega
    · omega
    · exact hk.2
  · by_cases h : t = q
    · subst h; rw [eq']; exact A.mp
    · rw [eo t A.T.I.root_mem h]; exact A.mp
  · by_cases h : t = q
    · subst h; rw [eq']; exact A.rp
    · rw [eo t A.T.I.root_mem h]; exact A.rp
  · rintro p (hp | rfl)
    · by_cases h : p = q
      · subst h
        rw [eq']
        rcases hlq with h | h
        · exact .inl h
        · right
          show lf ≤ cl'.kids.length
          rw [hperm.length_eq]
          simpa using h
      · rw [eo p hp h]; exact hlf p hp h
    · rw [ey]; left; simp [newNd]

/-- What put knows where it puts a child beneath q for what is left of the key. -/
structure PutT (w : World) (t : Nat) (lf : Nat) (rp : List UInt8) (M : List UInt8 → Option Int) (O : Nat → Prop) (N : Nat → Prop) (nd : Nat → Nd) (wd : Nat → List UInt8) (S : Nat → List UInt8) (sh : Nat → Nat) (K r : List UInt8) (q kb kc so sc : Nat) : Prop where
  A : TA w t 10 rp M O N nd wd S sh
  hq : N q
  lx : LfX lf N nd q
  lq : (nd q).it ≠ none ∨ lf ≤ (nd q).cl.kids.length + 1
  KA : KeyAt w kb kc K
  okb : ¬ O kb
  eK : K = wd q ++ r
  ner : r ≠ []
  K10 : K.length ≤ 10
  hso : so + r.length = K.length
  hsc : so + sc ≤ kc
  hrs : r.length ≤ sc
  no : ∀ c, c ∈ (nd q).cl.kids → (nd c).fb ≠ r.headD 0

section
variable {w w1 w2 w4 : World} {t lf : Nat} {rp : List UInt8} {M : List UInt8 → Option Int} {O : Nat → Prop} {N : Nat → Prop} {nd : Nat → Nd} {wd : Nat → List UInt8} {S : Nat → List UInt8} {sh : Nat → Nat} {K r : List UInt8} {q y l a kb kc so sc : Nat} {cl' : CL}

theorem PutT.byte (P : PutT w t lf rp M O N nd wd S sh K r q kb kc so sc) : w.cell? ⟨kb, so, none⟩ = some (.int .u8 ((r.headD 0).toNat : Int)) := by
  have h := P.KA.1
  have e := P.eK
  have l := P.hso
  have hr := P.ner
  rw [e, List.length_append] at l
  have := h (wd q).length (by rw [e, List.length_append]; have := List.length_pos_iff.2 hr; omega)
  rw [show 0 + (wd q).length = so by omega, e] at this
  rw [this]
  cases r with
  | nil => exact absurd rfl hr
  | cons b r => simp [List.getD_eq_getElem?_getD]

theorem PutT.new (P : PutT w t lf rp M O N nd wd S sh K r q kb kc so sc) : M K = none := by
  by_cases h : M K = none
  · exact h
  · exfalso
    obtain ⟨p, hp, e⟩ := P.A.C.of K h
    have hr := P.ner
    have hd := P.A.T.I.desc P.hq hp (by rw [e, P.eK]; exact List.prefix_append _ _)
    rcases hd with rfl | ⟨c, hc, hcp⟩
    · have := congrArg List.length e
      rw [P.eK, List.length_append] at this
      have := List.length_pos_iff.2 hr
      omega
    · have hb := P.A.T.I.byte_at P.hq hc hcp
      rw [e, P.eK, List.getElem?_append_right (Nat.le_refl _), Nat.sub_self] at hb
      apply P.no c hc
      cases r with
      | nil => exact absurd rfl hr
      | cons b r' => simp at hb ⊢; exact hb.symm

theorem PutT.put (P : PutT w t lf rp M O N nd wd S sh K r q kb kc so sc) (i : Int)
    (h1 : w1.heap = w.heap) (hT1 : Tch w w1 (fun _ => False)) (hY : w1.heap.size ≤ y ∧ w1.heap.size ≤ l ∧ w1.heap.size ≤ a ∧ w2.heap[y]? = some (freshNd l a 8 10 8).obj ∧ CLraw w2 (.sp l a 8 []) ∧ Tch w1 w2 (fun _ => False))
    (hP : CLraw w4 cl' ∧ cl'.kids.Perm (y :: (nd q).cl.kids) ∧ cl'.placed (fbY nd y (r.headD 0)) ∧ (cl'.l = (nd q).cl.l ∨ (w2.setCell ⟨y, 0, none⟩ (.slice (some ⟨kb, so, none⟩) r.length sc)).heap.size ≤ cl'.l) ∧ (cl'.a = (nd q).cl.a ∨ (w2.setCell ⟨y, 0, none⟩ (.slice (some ⟨kb, so, none⟩) r.length sc)).heap.size ≤ cl'.a) ∧
      Tch (w2.setCell ⟨y, 0, none⟩ (.slice (some ⟨kb, so, none⟩) r.length sc)) w4 (fun k => k = (nd q).cl.l ∨ k = (nd q).cl.a)) :
    ∃ O', TrieAt ((w4.setCell ⟨q, 4, none⟩ cl'.val).setCell ⟨y, 1, none⟩ (.iface 3 (.int .i64 i))) t lf 10 rp (setM M K (some i)) O' ∧
      (∀ k, O' k → O k ∨ k = kb ∨ (w.heap.size ≤ k ∧ k < ((w4.setCell ⟨q, 4, none⟩ cl'.val).setCell ⟨y, 1, none⟩ (.iface 3 (.int .i64 i))).heap.size)) ∧
      Tch w ((w4.setCell ⟨q, 4, none⟩ cl'.val).setCell ⟨y, 1, none⟩ (.iface 3 (.int .i64 i))) O := by
  obtain ⟨hy, hl, ha, hyo, hraw2, hT2⟩ := hY
  obtain ⟨k1, k2, k3, k4, k5, k8⟩ := hP
  have hws : w1.heap.size = w.heap.size := by rw [h1]
  simp only [World.size_setCell] at k4 k5
  obtain ⟨O', hA, hL, hO⟩ := put_add P.A P.hq P.lx P.lq P.KA P.okb P.eK P.ner P.K10 P.hso P.hsc P.hrs i P.no h1 hT1 hy hl ha hyo hraw2 hT2 k1 k2 k3 k4 k5 k8 rfl
  refine ⟨O', ⟨_, _, _, _, _, hA, hL⟩, hO, ?_⟩
  have o := P.A.own q P.hq
  have T1 : Tch w w2 O := (hT1.trans hT2 (fun _ _ h => h)).mono (fun _ _ h => h.elim)
  have T2 := T1.setCell ⟨y, 0, none⟩ (.slice (some ⟨kb, so, none⟩) r.length sc) (fun h => by have h : y < w.heap.size := h; omega)
  have T3 := T2.trans k8 (fun b hb h => by rcases h with h | h; exact h ▸ o.2.1; exact h ▸ o.2.2.1)
  exact (T3.setCell _ _ (fun _ => o.1)).setCell _ _ (fun h => by have h : y < w.heap.size := h; omega)
end

end Go.Proofs.Ytmdbnjepajifpaa
