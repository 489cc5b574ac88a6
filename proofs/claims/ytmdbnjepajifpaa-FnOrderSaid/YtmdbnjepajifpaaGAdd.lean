/- A child put beneath a node, in general: with an item or without one, its bytes beside those of others in one block. -/
import Derived.Test.YtmdbnjepajifpaaC3
set_option linter.unusedVariables false
set_option linter.unusedSimpArgs false
namespace Go.Proofs.Ytmdbnjepajifpaa
open Go.RowKit

section
variable {root : Nat} {N : Nat → Prop} {nd : Nat → Nd} {wd : Nat → List UInt8} {S : Nat → List UInt8} {sh : Nat → Nat}

/-- A new child y is put beneath q: the rest of the key. -/
theorem Inv.addKidG (I : Inv root N nd wd S sh) {q y : Nat} {dy : Nd} {cl' : CL} (hq : N q) (hy : ¬ N y) (hnp : dy.np = false) (hpx : dy.px ≠ []) (hkids : dy.cl.kids = []) (hplc : dy.cl.placed (fun c => (nd c).fb))
    (hperm : cl'.kids.Perm (y :: (nd q).cl.kids)) (hpl : cl'.placed (fun c => (upd (upd nd q { nd q with cl := cl' }) y dy c).fb)) (hfb : ∀ c, c ∈ (nd q).cl.kids → (nd c).fb ≠ dy.fb)
    (hlen : (wd q).length + dy.px.length ≤ 10) (hch : wd q ++ dy.px <+: S dy.sb ∧ dy.so + sh dy.sb = (wd q).length)
    (hl : ∀ p, N p → p ≠ q → (nd p).cl.l ≠ cl'.l) (hly : ∀ p, N p → (nd p).cl.l ≠ dy.cl.l) (hll : cl'.l ≠ dy.cl.l)
    (ha : ∀ p, N p → p ≠ q → (nd p).cl.a ≠ cl'.a) (hay : ∀ p, N p → (nd p).cl.a ≠ dy.cl.a) (haa : cl'.a ≠ dy.cl.a) :
    Inv root (fun x => N x ∨ x = y) (upd (upd nd q { nd q with cl := cl' }) y dy) (upd wd y (wd q ++ dy.px)) S sh := by
  have hqy : q ≠ y := fun h => hy (h ▸ hq)
  have ny : ∀ {x}, N x → x ≠ y := fun {x} hx h => hy (h ▸ hx)
  have hry : root ≠ y := ny I.root_mem
  obtain ⟨nd', hnd⟩ : ∃ n, upd (upd nd q { nd q with cl := cl' }) y dy = n := ⟨_, rfl⟩
  have ey : nd' y = dy := by rw [← hnd, upd_self]
  have eq : nd' q = { nd q with cl := cl' } := by rw [← hnd, upd_ne _ _ hqy, upd_self]
  have eo : ∀ x, x ≠ q → x ≠ y → nd' x = nd x := fun x h1 h2 => by rw [← hnd, upd_ne _ _ h2, upd_ne _ _ h1]
  have eN : ∀ x, N x → (nd' x).np = (nd x).np ∧ (nd' x).sb = (nd x).sb ∧ (nd' x).so = (nd x).so ∧ (nd' x).px = (nd x).px := by
    intro x hx
    by_cases h : x = q
    · subst h; rw [eq]; exact ⟨rfl, rfl, rfl, rfl⟩
    · rw [eo x h (ny hx)]; exact ⟨rfl, rfl, rfl, rfl⟩
  have ef : ∀ x, N x → (nd' x).fb = (nd x).fb := fun x hx => by unfold Nd.fb; rw [(eN x hx).2.2.2]
  have ec : ∀ x, N x → x ≠ q → (nd' x).cl = (nd x).cl := fun x hx h => by rw [eo x h (ny hx)]
  rw [hnd] at hpl ⊢
  have wN : ∀ x, N x → upd wd y (wd q ++ dy.px) x = wd x := fun x hx => upd_ne _ _ (ny hx)
  have km : ∀ c, c ∈ cl'.kids ↔ c = y ∨ c ∈ (nd q).cl.kids := fun c => by rw [hperm.mem_iff]; simp
  refine ⟨.inl I.root_mem, ?_, ?_, ?_, ?_, ?_, ?_, ?_, ?_, ?_, ?_, ?_⟩
  · rw [wN root I.root_mem, (eN root I.root_mem).2.2.2]; exact I.root_wd
  · rintro p (hp | rfl) hne
    · rw [(eN p hp).1]; exact I.np p hp hne
    · rw [ey]; exact hnp
  · rintro p (hp | rfl) c hc
    · by_cases hpq : p = q
      · subst hpq
        rw [eq] at hc
        rcases (km c).1 hc with rfl | hc
        · exact ⟨.inr rfl, hry.symm, by rw [upd_self, wN p hp, ey], by rw [ey]; exact hpx⟩
        · obtain ⟨h1, h2, h3, h4⟩ := I.kid p hp c hc
          exact ⟨.inl h1, h2, by rw [wN c h1, wN p hp, (eN c h1).2.2.2]; exact h3, by rw [(eN c h1).2.2.2]; exact h4⟩
      · rw [ec p hp hpq] at hc
        obtain ⟨h1, h2, h3, h4⟩ := I.kid p hp c hc
        exact ⟨.inl h1, h2, by rw [wN c h1, wN p hp, (eN c h1).2.2.2]; exact h3, by rw [(eN c h1).2.2.2]; exact h4⟩
    · rw [ey, hkids] at hc; cases hc
  · rintro p (hp | rfl) c d hc hd h
    · by_cases hpq : p = q
      · subst hpq
        rw [eq] at hc hd
        rcases (km c).1 hc with rfl | hc <;> rcases (km d).1 hd with rfl | hd
        · rfl
        · exfalso
          have hdN := (I.kid p hp d hd).1
          rw [ey, ef d hdN] at h
          exact hfb d hd h.symm
        · exfalso
          have hcN := (I.kid p hp c hc).1
          rw [ey, ef c hcN] at h
          exact hfb c hc h
        · rw [ef c (I.kid p hp c hc).1, ef d (I.kid p hp d hd).1] at h
          exact I.ne p hp c d hc hd h
      · rw [ec p hp hpq] at hc hd
        rw [ef c (I.kid p hp c hc).1, ef d (I.kid p hp d hd).1] at h
        exact I.ne p hp c d hc hd h
    · rw [ey, hkids] at hc; cases hc
  · rintro p (hp | rfl)
    · by_cases hpq : p = q
      · subst hpq
        rw [eq]
        exact hperm.nodup_iff.2 (List.nodup_cons.2 ⟨fun h => hy (I.kid p hp y h).1, I.nodup p hp⟩)
      · rw [ec p hp hpq]; exact I.nodup p hp
    · rw [ey, hkids]; exact List.nodup_nil
  · rintro p (hp | rfl)
    · by_cases hpq : p = q
      · subst hpq; rw [eq]; exact hpl
      · rw [ec p hp hpq]
        exact placed_perm (I.placed p hp) (fun c hc => ef c (I.kid p hp c hc).1)
    · rw [ey]; exact placed_perm hplc (fun c hc => by rw [hkids] at hc; cases hc)
  · rintro c (hc | rfl) hne
    · obtain ⟨p, hp, h⟩ := I.par c hc hne
      refine ⟨p, .inl hp, ?_⟩
      by_cases hpq : p = q
      · subst hpq; rw [eq]; exact (km c).2 (.inr h)
      · rw [ec p hp hpq]; exact h
    · exact ⟨q, .inl hq, by rw [eq]; exact (km c).2 (.inl rfl)⟩
  · have key : ∀ x z, N x → N z → (nd' x).cl.l = (nd' z).cl.l → x = z := by
      intro x z hx hz h
      by_cases h1 : x = q <;> by_cases h2 : z = q
      · rw [h1, h2]
      · subst h1; rw [eq, ec z hz h2] at h; exact absurd h.symm (hl z hz h2)
      · subst h2; rw [eq, ec x hx h1] at h; exact absurd h (hl x hx h1)
      · rw [ec x hx h1, ec z hz h2] at h; exact I.sepl x z hx hz h
    have ky : ∀ x, N x → (nd' x).cl.l ≠ dy.cl.l := by
      intro x hx
      by_cases h1 : x = q
      · subst h1; rw [eq]; exact hll
      · rw [ec x hx h1]; exact hly x hx
    rintro x z (hx | rfl) (hz | rfl) h
    · exact key x z hx hz h
    · rw [ey] at h; exact absurd h (ky x hx)
    · rw [ey] at h; exact absurd h.symm (ky z hz)
    · rfl
  · have key : ∀ x z, N x → N z → (nd' x).cl.a = (nd' z).cl.a → x = z := by
      intro x z hx hz h
      by_cases h1 : x = q <;> by_cases h2 : z = q
      · rw [h1, h2]
      · subst h1; rw [eq, ec z hz h2] at h; exact absurd h.symm (ha z hz h2)
      · subst h2; rw [eq, ec x hx h1] at h; exact absurd h (ha x hx h1)
      · rw [ec x hx h1, ec z hz h2] at h; exact I.sepa x z hx hz h
    have ky : ∀ x, N x → (nd' x).cl.a ≠ dy.cl.a := by
      intro x hx
      by_cases h1 : x = q
      · subst h1; rw [eq]; exact haa
      · rw [ec x hx h1]; exact hay x hx
    rintro x z (hx | rfl) (hz | rfl) h
    · exact key x z hx hz h
    · rw [ey] at h; exact absurd h (ky x hx)
    · rw [ey] at h; exact absurd h.symm (ky z hz)
    · rfl
  · rintro p (hp | rfl)
    · rw [wN p hp]; exact I.len p hp
    · rw [upd_self, List.length_append]; exact hlen
  · rintro p (hp | rfl) hn
    · rw [(eN p hp).1] at hn
      rw [wN p hp, (eN p hp).2.1, (eN p hp).2.2.1, (eN p hp).2.2.2]
      exact I.chain p hp hn
    · rw [ey, upd_self]
      exact ⟨hch.1, by rw [hch.2, List.length_append]⟩

end

theorem put_addG {w w1 w2 w4 w6 : World} {t : Nat} {mp : Int} {rp : List UInt8} {M : List UInt8 → Option Int} {O : Nat → Prop} {N : Nat → Prop} {nd : Nat → Nd} {wd : Nat → List UInt8} {S : Nat → List UInt8} {sh : Nat → Nat} {K KF r : List UInt8} {q y l a kb kc so sc : Nat} {cl' : CL}
    (A : TA w t mp rp M O N nd wd S sh) (hq : N q) {lf : Nat} (hlf : LfX lf N nd q) (hlq : (nd q).it ≠ none ∨ lf ≤ (nd q).cl.kids.length + 1) (hSk : S kb = KF) (hshk : sh kb = 0) (hKF : K <+: KF) (hKA : KeyAt w kb kc K) (hK : K = wd q ++ r) (hr : r ≠ []) (hK10 : K.length ≤ 10) (hso : so + r.length = K.length) (hsc : so + sc ≤ kc) (hrs : r.length ≤ sc) (oi : Option Int)
    (hno : ∀ c, c ∈ (nd q).cl.kids → (nd c).fb ≠ r.headD 0)
    (h1 : w1.heap = w.heap) (_hT1 : Tch w w1 (fun _ => False)) (hy : w1.heap.size ≤ y) (hl : w1.heap.size ≤ l) (ha : w1.heap.size ≤ a) (hyo : w2.heap[y]? = some (freshNd l a 8 10 8).obj) (hraw2 : CLraw w2 (.sp l a 8 [])) (hT2 : Tch w1 w2 (fun _ => False))
    (hraw4 : CLraw w4 cl') (hperm : cl'.kids.Perm (y :: (nd q).cl.kids)) (hpl : cl'.placed (fbY nd y (r.headD 0)))
    (hl' : cl'.l = (nd q).cl.l ∨ w2.heap.size ≤ cl'.l) (ha' : cl'.a = (nd q).cl.a ∨ w2.heap.size ≤ cl'.a)
    (hT4 : Tch (w2.setCell ⟨y, 0, none⟩ (.slice (some ⟨kb, so, none⟩) r.length sc)) w4 (fun k => k = (nd q).cl.l ∨ k = (nd q).cl.a))
    (keep6 : ∀ k, k ≠ q → k ≠ y → w6.heap[k]? = w4.heap[k]?) (hs6 : w6.heap.size = w4.heap.size) (hq6 : w4.heap[q]? = some (nd q).obj → w6.heap[q]? = some ({ nd q with cl := cl' } : Nd).obj) (hy6 : w4.heap[y]? = some (newNd kb so sc r none l a 8 10 8).obj → w6.heap[y]? = some (newNd kb so sc r oi l a 8 10 8).obj) :
    ∃ O', TA w6 t mp rp (setM M K oi) O' (fun x => N x ∨ x = y) (upd (upd nd q { nd q with cl := cl' }) y (newNd kb so sc r oi l a 8 10 8)) (upd wd y (wd q ++ r)) S sh ∧
      LfX lf (fun x => N x ∨ x = y) (upd (upd nd q { nd q with cl := cl' }) y (newNd kb so sc r oi l a 8 10 8)) y ∧
      (∀ k, O' k → O k ∨ k = kb ∨ (w.heap.size ≤ k ∧ k < w6.heap.size)) := by
  obtain ⟨hks, hkc, CK, frK, hk1, hk2, hk3⟩ := hKA
  have hws : w1.heap.size = w.heap.size := by rw [h1]
  have hyN : ¬ N y := fun h => by have := lt_of_heap (A.T.H y h).obj; omega
  have ltN : ∀ p, N p → p < w.heap.size ∧ (nd p).cl.l < w.heap.size ∧ (nd p).cl.a < w.heap.size ∧ (nd p).sb < w.heap.size := fun p hp => by
    obtain ⟨o1, o2, o3, o4⟩ := A.own p hp
    exact ⟨A.lt _ o1, A.lt _ o2, A.lt _ o3, A.lt _ o4⟩
  have hqO := A.own q hq
  have hqlt := ltN q hq
  have hkblt := lt_of_heap hk1
  have hs2 : w1.heap.size ≤ w2.heap.size := hT2.size
  have hylt2 := lt_of_heap hyo
  have hs4 : w2.heap.size ≤ w4.heap.size := by have := hT4.size; simpa using this
  -- an old block that is none of q's
  have keep4 : ∀ k, k < w.heap.size → k ≠ (nd q).cl.l → k ≠ (nd q).cl.a → w4.heap[k]? = w.heap[k]? := fun k hk n1 n2 => by
    rw [hT4.keep k (by simp; omega) (fun h => by rcases h with h | h; exact n1 h; exact n2 h), heap_set_ne (by omega), hT2.keep k (by omega) (fun h => h), h1]
  have keep : ∀ k, k < w.heap.size → k ≠ q → k ≠ (nd q).cl.l → k ≠ (nd q).cl.a → w6.heap[k]? = w.heap[k]? := fun k hk n0 n1 n2 => by rw [keep6 k n0 (by omega), keep4 k hk n1 n2]
  have hl4 : l < w4.heap.size := Nat.lt_of_lt_of_le (hraw2.lt.1) hs4
  have ha4 : a < w4.heap.size := Nat.lt_of_lt_of_le (hraw2.lt.2) hs4
  have hsoq : so = (wd q).length := by rw [hK, List.length_append] at hso; omega
  have hcll : cl'.l ≠ l := by
    rcases hl' with h | h
    · omega
    · have := hraw2.lt.1; show cl'.l ≠ (CL.sp l a 8 []).l; omega
  have hcla : cl'.a ≠ a := by
    rcases ha' with h | h
    · omega
    · have := hraw2.lt.2; show cl'.a ≠ (CL.sp l a 8 []).a; omega
  obtain ⟨hcl4, hca4⟩ := hraw4.lt
  have hpl' : cl'.placed (fun c => (upd (upd nd q { nd q with cl := cl' }) y (newNd kb so sc r oi l a 8 10 8) c).fb) := by
    refine placed_perm hpl (fun c _ => ?_)
    by_cases hc : c = y
    · subst hc; rw [upd_self]; simp [fbY, newNd, Nd.fb]
    · rw [upd_ne _ _ hc]
      simp only [fbY, if_neg hc]
      by_cases h : c = q
      · subst h; rw [upd_self]; rfl
      · rw [upd_ne _ _ h]
  have I' := A.T.I.addKidG (q := q) (y := y) (dy := newNd kb so sc r oi l a 8 10 8) (cl' := cl') hq hyN rfl hr rfl trivial hperm hpl' hno
    (by show (wd q).length + r.length ≤ 10; rw [hK, List.length_append] at hK10; exact hK10) ⟨by show wd q ++ r <+: S kb; rw [hSk, ← hK]; exact hKF, by show so + sh kb = _; rw [hshk, hsoq]; rfl⟩
    (fun p hp hpq h => by
      rcases hl' with h' | h'
      · rw [h'] at h; exact hpq (A.T.I.sepl p q hp hq h)
      · have := (ltN p hp).2.1; omega)
    (fun p hp => by have := (ltN p hp).2.1; show (nd p).cl.l ≠ l; omega) hcll
    (fun p hp hpq h => by
      rcases ha' with h' | h'
      · rw [h'] at h; exact hpq (A.T.I.sepa p q hp hq h)
      · have := (ltN p hp).2.2.1; omega)
    (fun p hp => by have := (ltN p hp).2.2.1; show (nd p).cl.a ≠ a; omega) hcla
  have hqy : q ≠ y := by omega
  have nyN : ∀ p, N p → p ≠ y := fun p hp e => hyN (e ▸ hp)
  have ety : t ≠ y := fun h => hyN (h ▸ A.T.I.root_mem)
  have eo : ∀ p, N p → p ≠ q → upd (upd nd q { nd q with cl := cl' }) y (newNd kb so sc r oi l a 8 10 8) p = nd p := fun p hp h => by
    rw [upd_ne _ _ (nyN p hp), upd_ne _ _ h]
  have eq' : upd (upd nd q { nd q with cl := cl' }) y (newNd kb so sc r oi l a 8 10 8) q = { nd q with cl := cl' } := by rw [upd_ne _ _ hqy, upd_self]
  have ey : upd (upd nd q { nd q with cl := cl' }) y (newNd kb so sc r oi l a 8 10 8) y = newNd kb so sc r oi l a 8 10 8 := upd_self _ _ _
  generalize upd (upd nd q { nd q with cl := cl' }) y (newNd kb so sc r oi l a 8 10 8) = nd' at *
  -- blocks of the new list
  obtain ⟨CL1, hcl1⟩ := hraw4.l_ty
  obtain ⟨CA1, hca1⟩ := hraw4.a_ty
  have hq4 : w4.heap[q]? = some (nd q).obj := by
    rw [keep4 q hqlt.1 (A.T.l_ne hq hq).symm (A.T.a_ne hq hq).symm]; exact (A.T.H q hq).obj
  have hy4 : w4.heap[y]? = some ({ newNd kb so sc r none l a 8 10 8 with it := none } : Nd).obj := by
    rw [hT4.keep y (by simpa using hylt2) (fun h => by rcases h with h | h <;> omega), heap_set hyo]
    rfl
  have nl : cl'.l ≠ q ∧ cl'.l ≠ y := ⟨ne_of_type hcl1 hq4 (CL.sty_ne _).1, ne_of_type hcl1 hy4 (CL.sty_ne _).1⟩
  have na : cl'.a ≠ q ∧ cl'.a ≠ y := ⟨ne_of_type hca1 hq4 (by decide), ne_of_type hca1 hy4 (by decide)⟩
  have hl4h : w4.heap[l]? = w2.heap[l]? := by
    have h2 : l < w2.heap.size := hraw2.lt.1
    obtain ⟨C2, k2⟩ : ∃ C, w2.heap[l]? = some (.cells C (CL.sp l a 8 []).sty (0, 0)) := hraw2.l_ty
    rw [hT4.keep l (by simpa using h2) (fun h => by rcases h with h | h <;> omega), heap_set_ne (ne_of_type k2 hyo (CL.sty_ne _).1)]
  have ha4h : w4.heap[a]? = w2.heap[a]? := by
    have h2 : a < w2.heap.size := hraw2.lt.2
    obtain ⟨C2, k2⟩ : ∃ C, w2.heap[a]? = some (.cells C 50 (0, 0)) := hraw2.a_ty
    rw [hT4.keep a (by simpa using h2) (fun h => by rcases h with h | h <;> omega), heap_set_ne (ne_of_type k2 hyo (by decide))]
  have nly : l ≠ y ∧ a ≠ y := by
    obtain ⟨C2, k2⟩ := hraw2.l_ty
    obtain ⟨C3, k3⟩ := hraw2.a_ty
    exact ⟨ne_of_type k2 hyo (CL.sty_ne _).1, ne_of_type k3 hyo (by decide)⟩
  have hkb6 : w6.heap[kb]? = w.heap[kb]? := keep kb hkblt (ne_of_type hk1 (A.T.H q hq).obj (by decide)) (by obtain ⟨C, h⟩ := (A.T.H q hq).raw.l_ty; exact ne_of_type hk1 h (CL.sty_ne _).2.2.symm) (by obtain ⟨C, h⟩ := (A.T.H q hq).raw.a_ty; exact ne_of_type hk1 h (by decide))
  refine ⟨fun k => O k ∨ k = kb ∨ (w.heap.size ≤ k ∧ k < w6.heap.size), ⟨⟨I', ?_, ?_⟩, ⟨?_, ?_⟩, ?_, ?_, ?_, ?_⟩, ?_, fun k h => h⟩
  · rintro p (hp | rfl)
    · by_cases hpq : p = q
      · subst hpq
        rw [eq']
        have hN := A.T.H p hp
        refine ⟨?_, hraw4.frame (keep6 _ nl.1 nl.2) (keep6 _ na.1 na.2), hN.le, fun hn => ?_⟩
        · exact hq6 hq4
        · obtain ⟨C, fr, b1, b2, b3, b4⟩ := hN.blk hn
          have hs := keep (nd p).sb hqlt.2.2.2 (A.T.s_ne hp hp) (A.T.sl_ne hp hp) (A.T.sa_ne hp hp)
          exact ⟨C, fr, hs.trans b1, b2, fun i hi => by rw [frozen_same hs]; exact b3 i hi, b4⟩
      · rw [eo p hp hpq]
        obtain ⟨g1, g2, g3, g4⟩ := ltN p hp
        exact (A.T.H p hp).frame (keep p g1 hpq (A.T.l_ne hq hp).symm (A.T.a_ne hq hp).symm)
          (keep _ g2 (A.T.l_ne hp hq) (fun h => hpq (A.T.I.sepl p q hp hq h)) (A.T.la_ne hp hq))
          (keep _ g3 (A.T.a_ne hp hq) (A.T.la_ne hq hp).symm (fun h => hpq (A.T.I.sepa p q hp hq h)))
          (keep _ g4 (A.T.s_ne hp hq) (A.T.sl_ne hp hq) (A.T.sa_ne hp hq))
    · rw [ey]
      refine ⟨?_, ?_, hrs, fun _ => ⟨CK, frK, hkb6.trans hk1, by show so + sc ≤ _; omega, fun i hi => by show w6.frozen? ⟨kb, i, none⟩ = false; rw [frozen_same hkb6]; exact hk3 i hi, fun j hj => ?_⟩⟩
      · exact hy6 hy4
      · exact hraw2.frame ((keep6 l (by omega) nly.1).trans hl4h) ((keep6 a (by omega) nly.2).trans ha4h)
      · have hj' : j < r.length := hj
        have := hks (so + j) (by omega)
        rw [cell_of_block hk1, Nat.zero_add] at this
        show CK[so + j]? = some (.int .u8 ((r.getD j 0).toNat : Int))
        rw [this, hK, List.getD_eq_getElem?_getD, List.getElem?_append_right (by omega), List.getD_eq_getElem?_getD, hsoq]
        simp
  · by_cases h : t = q
    · subst h; rw [eq']; exact A.T.rn
    · rw [eo t A.T.I.root_mem h]; exact A.T.rn
  · rintro p (hp | rfl)
    · rw [upd_ne _ _ (nyN p hp)]
      have hne : wd p ≠ K := fun e => by
        have := congrArg List.length e
        have hd := A.T.I.desc hq hp (by rw [e, hK]; exact List.prefix_append _ _)
        rcases hd with rfl | ⟨c, hc, hcp⟩
        · rw [hK, List.length_append] at this
          have := List.length_pos_iff.2 hr
          omega
        · have hb := A.T.I.byte_at hq hc hcp
          rw [e, hK, List.getElem?_append_right (Nat.le_refl _), Nat.sub_self] at hb
          apply hno c hc
          cases r with
          | nil => exact absurd rfl hr
          | cons b r' => simp at hb ⊢; exact hb.symm
      simp only [setM, if_neg hne]
      by_cases h : p = q
      · subst h; rw [eq']; exact A.C.at_ p hp
      · rw [eo p hp h]; exact A.C.at_ p hp
    · rw [upd_self, ey, ← hK]; simp [setM, newNd]
  · intro k hk
    by_cases h : k = K
    · exact ⟨y, .inr rfl, by rw [upd_self, h, hK]⟩
    · simp only [setM, if_neg h] at hk
      obtain ⟨p, hp, e⟩ := A.C.of k hk
      exact ⟨p, .inl hp, by rw [upd_ne _ _ (nyN p hp)]; exact e⟩
  · rintro p (hp | rfl)
    · by_cases h : p = q
      · subst h
        rw [eq']
        refine ⟨.inl hqO.1, ?_, ?_, .inl hqO.2.2.2⟩
        · show O cl'.l ∨ cl'.l = kb ∨ (w.heap.size ≤ cl'.l ∧ cl'.l < w6.heap.size)
          rcases hl' with e | e
          · rw [e]; exact .inl hqO.2.1
          · exact .inr (.inr ⟨by omega, by omega⟩)
        · show O cl'.a ∨ cl'.a = kb ∨ (w.heap.size ≤ cl'.a ∧ cl'.a < w6.heap.size)
          rcases ha' with e | e
          · rw [e]; exact .inl hqO.2.2.1
          · exact .inr (.inr ⟨by omega, by omega⟩)
      · rw [eo p hp h]
        obtain ⟨o1, o2, o3, o4⟩ := A.own p hp
        exact ⟨.inl o1, .inl o2, .inl o3, .inl o4⟩
    · rw [ey]
      exact ⟨.inr (.inr ⟨by omega, by omega⟩), .inr (.inr ⟨by show w.heap.size ≤ l; omega, by show l < _; omega⟩), .inr (.inr ⟨by show w.heap.size ≤ a; omega, by show a < _; omega⟩), .inr (.inl rfl)⟩
  · rintro k (hk | rfl | hk)
    · have := A.lt k hk; omega
    · omega
    · exact hk.2
  · by_cases h : t = q
    · subst h; rw [eq']; exact A.mp
    · rw [eo t A.T.I.root_mem h]; exact A.mp
  · by_cases h : t = q
    · subst h; rw [eq']; exact A.rp
    · rw [eo t A.T.I.root_mem h]; exact A.rp
  · rintro p (hp | rfl) hpy
    · by_cases h : p = q
      · subst h
        rw [eq']
        rcases hlq with h | h
        · exact .inl h
        · right
          show lf ≤ cl'.kids.length
          rw [hperm.length_eq]
          simpa using h
      · rw [eo p hp h]; exact hlf p hp h
    · exact absurd rfl hpy


end Go.Proofs.Ytmdbnjepajifpaa
