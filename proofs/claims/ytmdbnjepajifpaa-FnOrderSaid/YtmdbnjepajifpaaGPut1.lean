/- put, in general: what is known while the rest of the key is put, node by node. -/
import Derived.Test.YtmdbnjepajifpaaGSplit
import Derived.Test.YtmdbnjepajifpaaC4
import Derived.Test.YtmdbnjepajifpaaC8
set_option linter.unusedVariables false
set_option linter.unusedSimpArgs false
namespace Go.Proofs.Ytmdbnjepajifpaa
open Go.RowKit

section
variable {w W w1 w2 w4 w6 : World} {t : Nat} {mp : Int} {rp : List UInt8} {M : List UInt8 → Option Int} {O O' : Nat → Prop} {N : Nat → Prop} {nd : Nat → Nd} {wd : Nat → List UInt8} {S : Nat → List UInt8} {sh : Nat → Nat} {K r r1 r2 : List UInt8} {q y l a kb kc so sc : Nat} {cl' : CL}

/-- Where no node's bytes lie, S and sh are free. -/
theorem TA.setS (A : TA w t mp rp M O N nd wd S sh) (hkb : ¬ O kb) (K : List UInt8) : TA w t mp rp M O N nd wd (upd S kb K) (upd sh kb 0) := by
  have hch : ∀ p, N p → (nd p).np = false → wd p <+: upd S kb K (nd p).sb ∧ (nd p).so + upd sh kb 0 (nd p).sb + (nd p).px.length = (wd p).length := fun p hp hn => by
    have hne : (nd p).sb ≠ kb := fun e => hkb (e ▸ (A.own p hp).2.2.2)
    rw [upd_ne _ _ hne, upd_ne _ _ hne]
    exact A.T.I.chain p hp hn
  exact ⟨⟨{ A.T.I with chain := hch }, A.T.H, A.T.rn⟩, A.C, A.own, A.lt, A.mp, A.rp⟩

/-- The state in which r is left of the key K, to be put beneath q. -/
structure ApI (w : World) (t : Nat) (M : List UInt8 → Option Int) (O : Nat → Prop) (K : List UInt8) (kb kc : Nat) (mp : Int) (q : Nat) (r : List UInt8) (so sc : Nat) (rp : List UInt8) (O' : Nat → Prop) (N : Nat → Prop) (nd : Nat → Nd) (wd : Nat → List UInt8) (S : Nat → List UInt8) (sh : Nat → Nat) (W : World) : Prop where
  A : TA W t mp rp M O' N nd wd S sh
  hq : N q
  lx : LfX 1 N nd q
  lq : r = [] → (nd q).it = none
  KA : KeyAt W kb kc K
  Sk : S kb = K
  shk : sh kb = 0
  eK : K = wd q ++ r
  K10 : K.length ≤ 10
  hso : r ≠ [] → so + r.length = K.length
  hsc : r ≠ [] → so + sc ≤ kc
  hrs : r ≠ [] → r.length ≤ sc
  no : r ≠ [] → ∀ c, c ∈ (nd q).cl.kids → (nd c).fb ≠ r.headD 0
  T : Tch w W O
  hO : ∀ k, O' k → O k ∨ k = kb ∨ (w.heap.size ≤ k ∧ k < W.heap.size)

def ApE (w : World) (t : Nat) (M : List UInt8 → Option Int) (O : Nat → Prop) (K : List UInt8) (kb kc : Nat) (mp : Int) (q : Nat) (r : List UInt8) (so sc : Nat) (W : World) : Prop :=
  ∃ rp O' N nd wd S sh, ApI w t M O K kb kc mp q r so sc rp O' N nd wd S sh W

/-- What put leaves (replace = false). -/
def PutX (w : World) (t : Nat) (mp : Int) (M : List UInt8 → Option Int) (O : Nat → Prop) (K : List UInt8) (i : Int) (kb : Nat) (e : Ending) (w' : World) : Prop :=
  e = .returned (.bool (M K).isNone) ∧ ∃ O' rp' mp', (mp' = 10 ∨ mp' = mp) ∧ TrieAt w' t 1 mp' rp' (if (M K).isNone then setM M K (some i) else M) O' ∧ (∀ k, O' k → O k ∨ k = kb ∨ (w.heap.size ≤ k ∧ k < w'.heap.size)) ∧ Tch w w' O

/-- The key is new. -/
theorem ApI.new (P : ApI w t M O K kb kc mp q r so sc rp O' N nd wd S sh W) : M K = none := by
  by_cases hr : r = []
  · rw [P.eK, hr, List.append_nil, P.A.C.at_ q P.hq]; exact P.lq hr
  · by_cases h : M K = none
    · exact h
    · exfalso
      obtain ⟨p, hp, e⟩ := P.A.C.of K h
      have hd := P.A.T.I.desc P.hq hp (by rw [e, P.eK]; exact List.prefix_append _ _)
      rcases hd with rfl | ⟨c, hc, hcp⟩
      · have := congrArg List.length e
        rw [P.eK, List.length_append] at this
        have := List.length_pos_iff.2 hr
        omega
      · have hb := P.A.T.I.byte_at P.hq hc hcp
        rw [e, P.eK, List.getElem?_append_right (Nat.le_refl _), Nat.sub_self] at hb
        apply P.no hr c hc
        cases r with
        | nil => exact absurd rfl hr
        | cons b r' => simp at hb ⊢; exact hb.symm

/-- Nothing is left: the item is set. -/
theorem ApI.item (P : ApI w t M O K kb kc mp q [] so sc rp O' N nd wd S sh W) (i : Int) {mp0 : Int} (hmp : mp = 10 ∨ mp = mp0) (n : Nat) : PutX w t mp0 M O K i kb (.returned (.bool true)) ((W.drewN n).setCell ⟨q, 1, none⟩ (.iface 3 (.int .i64 i))) := by
  have hM := P.new
  have hN : (M K).isNone = true := by rw [hM]; rfl
  have eK : K = wd q := by have := P.eK; rw [List.append_nil] at this; exact this
  have hq := P.A.own q P.hq
  refine ⟨by rw [hN], O', rp, mp, hmp, ?_, ?_, (P.T.drn n).trans ((Tch.refl (W.drewN n) (fun k => k = q)).setCell _ _ (fun _ => rfl)) (fun b hb h => ?_)⟩
  · rw [hN, if_pos rfl, eK]
    exact ⟨N, _, wd, S, sh, (P.A.dr n).setItem P.hq (some i) rfl, P.lx.setItem _ (.inl (by simp))⟩
  · intro k hk
    rcases P.hO k hk with h | h | h
    · exact .inl h
    · exact .inr (.inl h)
    · refine .inr (.inr ⟨h.1, ?_⟩)
      have : ((W.drewN n).setCell ⟨q, 1, none⟩ (.iface 3 (.int .i64 i))).heap.size = W.heap.size := by simp
      omega
  · have h : b = q := h
    subst h
    rcases P.hO b hq.1 with h | h | h
    · exact h
    · exfalso
      obtain ⟨_, _, C, fr, h1, _⟩ := P.KA
      exact ne_of_type h1 (P.A.T.H b P.hq).obj (by decide) h.symm
    · omega

theorem ApI.sl (P : ApI w t M O K kb kc mp q r so sc rp O' N nd wd S sh W) (hr : r ≠ []) : so = (wd q).length := by
  have h1 := P.hso hr
  rw [P.eK, List.length_append] at h1
  omega

theorem KeyAt.pre {K1 : List UInt8} (h : KeyAt W kb kc K) (hp : K1 <+: K) : KeyAt W kb kc K1 := by
  obtain ⟨h1, h2, h3⟩ := h
  exact ⟨h1.pre hp, Nat.le_trans hp.length_le h2, h3⟩

theorem ApI.byte (P : ApI w t M O K kb kc mp q r so sc rp O' N nd wd S sh W) (hr : r ≠ []) : W.cell? ⟨kb, so, none⟩ = some (.int .u8 ((r.headD 0).toNat : Int)) := by
  have h := P.KA.1
  have e := P.eK
  have hl := P.sl hr
  have := h (wd q).length (by rw [e, List.length_append]; have := List.length_pos_iff.2 hr; omega)
  rw [show 0 + (wd q).length = so by omega, e] at this
  rw [this]
  cases r with
  | nil => exact absurd rfl hr
  | cons b r => simp [List.getD_eq_getElem?_getD]

/-- A node for the first part of what is left. -/
theorem ApI.add (P : ApI w t M O K kb kc mp q r so sc rp O' N nd wd S sh W) (hr : r = r1 ++ r2) (hr1 : r1 ≠ [])
    (h1 : w1.heap = W.heap) (hT1 : Tch W w1 (fun _ => False)) (hY : w1.heap.size ≤ y ∧ w1.heap.size ≤ l ∧ w1.heap.size ≤ a ∧ w2.heap[y]? = some (freshNd l a 8 10 8).obj ∧ CLraw w2 (.sp l a 8 []) ∧ Tch w1 w2 (fun _ => False))
    (hP : CLraw w4 cl' ∧ cl'.kids.Perm (y :: (nd q).cl.kids) ∧ cl'.placed (fbY nd y (r1.headD 0)) ∧ (cl'.l = (nd q).cl.l ∨ (w2.setCell ⟨y, 0, none⟩ (.slice (some ⟨kb, so, none⟩) r1.length sc)).heap.size ≤ cl'.l) ∧ (cl'.a = (nd q).cl.a ∨ (w2.setCell ⟨y, 0, none⟩ (.slice (some ⟨kb, so, none⟩) r1.length sc)).heap.size ≤ cl'.a) ∧
      Tch (w2.setCell ⟨y, 0, none⟩ (.slice (some ⟨kb, so, none⟩) r1.length sc)) w4 (fun k => k = (nd q).cl.l ∨ k = (nd q).cl.a)) :
    ApE w t M O K kb kc mp y r2 (so + r1.length) (sc - r1.length) (w4.setCell ⟨q, 4, none⟩ cl'.val) := by
  obtain ⟨hy, hl, ha, hyo, hraw2, hT2⟩ := hY
  obtain ⟨k1, k2, k3, k4, k5, k8⟩ := hP
  have hws : w1.heap.size = W.heap.size := by rw [h1]
  simp only [World.size_setCell] at k4 k5
  have hrne : r ≠ [] := by rw [hr]; simp [hr1]
  have hsl := P.sl hrne
  have hlen : r.length = r1.length + r2.length := by rw [hr, List.length_append]
  have hpre : wd q ++ r1 <+: K := by rw [P.eK, hr, ← List.append_assoc]; exact List.prefix_append _ _
  have hK1 : (wd q ++ r1).length ≤ 10 := Nat.le_trans hpre.length_le P.K10
  have hhd : r.headD 0 = r1.headD 0 := by
    rw [hr]
    cases r1 with
    | nil => exact absurd rfl hr1
    | cons b r1 => rfl
  have hno : ∀ c, c ∈ (nd q).cl.kids → (nd c).fb ≠ r1.headD 0 := fun c hc => by rw [← hhd]; exact P.no hrne c hc
  have hM1 : M (wd q ++ r1) = none := by
    by_cases h : M (wd q ++ r1) = none
    · exact h
    · exfalso
      obtain ⟨p, hp, e⟩ := P.A.C.of _ h
      rcases P.A.T.I.desc P.hq hp (by rw [e]; exact List.prefix_append _ _) with rfl | ⟨c, hc, hcp⟩
      · have := congrArg List.length e
        rw [List.length_append] at this
        have := List.length_pos_iff.2 hr1
        omega
      · have hb := P.A.T.I.byte_at P.hq hc hcp
        rw [e, List.getElem?_append_right (Nat.le_refl _), Nat.sub_self] at hb
        apply hno c hc
        cases r1 with
        | nil => exact absurd rfl hr1
        | cons b r' => simp at hb ⊢; exact hb.symm
  have hset : setM M (wd q ++ r1) none = M := by
    funext k
    unfold setM
    by_cases h : k = wd q ++ r1
    · rw [if_pos h, h, hM1]
    · rw [if_neg h]
  obtain ⟨_, _, CK, frK, hk1, hk2, hk3⟩ := P.KA
  have hkblt := lt_of_heap hk1
  have hqo := (P.A.T.H q P.hq).obj
  have nkq : kb ≠ q := ne_of_type hk1 hqo (by decide)
  have nkl : kb ≠ (nd q).cl.l := by obtain ⟨C, h⟩ := (P.A.T.H q P.hq).raw.l_ty; exact ne_of_type hk1 h (CL.sty_ne _).2.2.symm
  have nka : kb ≠ (nd q).cl.a := by obtain ⟨C, h⟩ := (P.A.T.H q P.hq).raw.a_ty; exact ne_of_type hk1 h (by decide)
  have oq := P.A.own q P.hq
  have hqlt := P.A.lt _ oq.1
  have hs2 : w1.heap.size ≤ w2.heap.size := hT2.size
  have hylt := lt_of_heap hyo
  have hs4 : w2.heap.size ≤ w4.heap.size := by have := k8.size; simpa using this
  have hyq : y ≠ q := by omega
  obtain ⟨O2, hA, hL, hO2⟩ := put_addG (K := wd q ++ r1) (KF := K) (oi := none) (w6 := w4.setCell ⟨q, 4, none⟩ cl'.val) P.A P.hq P.lx (.inr (by omega)) P.Sk P.shk hpre (P.KA.pre hpre) rfl hr1 hK1 (by rw [List.length_append]; omega) (P.hsc hrne) (by have := P.hrs hrne; omega) hno h1 hT1 hy hl ha hyo hraw2 hT2 k1 k2 k3 k4 k5 k8
    (fun k n1 _ => heap_set_ne n1 _) (by simp) (fun h => by rw [heap_set h]; rfl) (fun h => by rw [heap_set_ne hyq]; exact h)
  rw [hset] at hA
  have hT6 : Tch W (w4.setCell ⟨q, 4, none⟩ cl'.val) (fun k => k = q ∨ k = (nd q).cl.l ∨ k = (nd q).cl.a) := by
    have T1 : Tch W w2 (fun k => k = q ∨ k = (nd q).cl.l ∨ k = (nd q).cl.a) := (hT1.trans hT2 (fun _ _ h => h)).mono (fun _ _ h => h.elim)
    have T2 := T1.setCell ⟨y, 0, none⟩ (.slice (some ⟨kb, so, none⟩) r1.length sc) (fun h => by have h : y < W.heap.size := h; omega)
    have T3 := T2.trans k8 (fun b hb h => .inr h)
    exact T3.setCell _ _ (fun _ => .inl rfl)
  have hkb6 : (w4.setCell ⟨q, 4, none⟩ cl'.val).heap[kb]? = W.heap[kb]? := hT6.keep kb hkblt (fun h => by
    rcases h with h | h | h
    · exact nkq h
    · exact nkl h
    · exact nka h)
  have ey : upd (upd nd q { nd q with cl := cl' }) y (newNd kb so sc r1 none l a 8 10 8) y = newNd kb so sc r1 none l a 8 10 8 := upd_self _ _ _
  have hout : ∀ b, b < w.heap.size → O' b → b ≠ kb → O b := fun b hb h hne => by
    rcases P.hO b h with h | h | h
    · exact h
    · exact absurd h hne
    · omega
  refine ⟨rp, O2, _, _, _, S, sh, ⟨hA, .inr rfl, hL, fun _ => by rw [ey]; rfl, ?_, P.Sk, P.shk, by rw [upd_self, P.eK, hr, List.append_assoc], P.K10, fun _ => by have := P.hso hrne; omega, fun _ => by have := P.hsc hrne; have := P.hrs hrne; omega, fun _ => by have := P.hrs hrne; omega, fun _ c hc => ?_, P.T.trans hT6 (fun b hb h => ?_), fun k hk => ?_⟩⟩
  · obtain ⟨p1, p2, _⟩ := P.KA
    refine ⟨fun j hj => ?_, p2, CK, frK, hkb6.trans hk1, hk2, fun j hj => by rw [frozen_same hkb6]; exact hk3 j hj⟩
    rw [World.cell?_of_block hkb6]
    exact p1 j hj
  · rw [ey] at hc
    simp [newNd, CL.kids] at hc
  · rcases h with h | h | h
    · exact hout b hb (h ▸ oq.1) (h ▸ nkq.symm)
    · exact hout b hb (h ▸ oq.2.1) (h ▸ nkl.symm)
    · exact hout b hb (h ▸ oq.2.2.1) (h ▸ nka.symm)
  · have hsz := P.T.size
    have hs6 : (w4.setCell ⟨q, 4, none⟩ cl'.val).heap.size = w4.heap.size := by simp
    rcases hO2 k hk with h | h | h
    · rcases P.hO k h with h | h | h
      · exact .inl h
      · exact .inr (.inl h)
      · exact .inr (.inr ⟨h.1, by omega⟩)
    · exact .inr (.inl h)
    · exact .inr (.inr ⟨by omega, h.2⟩)

/-- The last node, with the item. -/
theorem ApI.last (P : Hid (ApI w t M O K kb kc mp q r so sc rp O' N nd wd S sh W)) (hr : Hid (r ≠ [])) (i : Int) {mp0 : Int} (hmp : Hid (mp = 10 ∨ mp = mp0))
    (h1 : w1.heap = W.heap) (hT1 : Tch W w1 (fun _ => False)) (hY : Hid (w1.heap.size ≤ y ∧ w1.heap.size ≤ l ∧ w1.heap.size ≤ a ∧ w2.heap[y]? = some (freshNd l a 8 10 8).obj ∧ CLraw w2 (.sp l a 8 []) ∧ Tch w1 w2 (fun _ => False)))
    (hP : Hid (CLraw w4 cl' ∧ cl'.kids.Perm (y :: (nd q).cl.kids) ∧ cl'.placed (fbY nd y (r.headD 0)) ∧ (cl'.l = (nd q).cl.l ∨ (w2.setCell ⟨y, 0, none⟩ (.slice (some ⟨kb, so, none⟩) r.length sc)).heap.size ≤ cl'.l) ∧ (cl'.a = (nd q).cl.a ∨ (w2.setCell ⟨y, 0, none⟩ (.slice (some ⟨kb, so, none⟩) r.length sc)).heap.size ≤ cl'.a) ∧
      Tch (w2.setCell ⟨y, 0, none⟩ (.slice (some ⟨kb, so, none⟩) r.length sc)) w4 (fun k => k = (nd q).cl.l ∨ k = (nd q).cl.a))) :
    PutX w t mp0 M O K i kb (.returned (.bool true)) ((w4.setCell ⟨q, 4, none⟩ (.iface cl'.ty (ptr cl'.l))).setCell ⟨y, 1, none⟩ (.iface 3 (.int .i64 i))) := by
  obtain ⟨rp', O2, N2, nd2, wd2, S2, sh2, P2⟩ := P.out.add (r1 := r) (r2 := []) (by simp) hr.out h1 hT1 hY.out hP.out
  exact P2.item i hmp.out 0

theorem headD_take {r : List UInt8} {m : Nat} (hm : 1 ≤ m) : (r.take m).headD 0 = r.headD 0 := by
  cases r with
  | nil => simp
  | cons b r => obtain ⟨m, rfl⟩ : ∃ k, m = k + 1 := ⟨m - 1, by omega⟩; simp

/-- A node without an item; more is left. -/
theorem ApI.more {m : Nat} (P : Hid (ApI w t M O K kb kc mp q r so sc rp O' N nd wd S sh W)) (hm : 1 ≤ m) (hlt : m < r.length)
    (h1 : w1.heap = W.heap) (hT1 : Tch W w1 (fun _ => False)) (hY : Hid (w1.heap.size ≤ y ∧ w1.heap.size ≤ l ∧ w1.heap.size ≤ a ∧ w2.heap[y]? = some (freshNd l a 8 10 8).obj ∧ CLraw w2 (.sp l a 8 []) ∧ Tch w1 w2 (fun _ => False)))
    (hP : Hid (CLraw w4 cl' ∧ cl'.kids.Perm (y :: (nd q).cl.kids) ∧ cl'.placed (fbY nd y (r.headD 0)) ∧ (cl'.l = (nd q).cl.l ∨ (w2.setCell ⟨y, 0, none⟩ (.slice (some ⟨kb, so, none⟩) m sc)).heap.size ≤ cl'.l) ∧ (cl'.a = (nd q).cl.a ∨ (w2.setCell ⟨y, 0, none⟩ (.slice (some ⟨kb, so, none⟩) m sc)).heap.size ≤ cl'.a) ∧
      Tch (w2.setCell ⟨y, 0, none⟩ (.slice (some ⟨kb, so, none⟩) m sc)) w4 (fun k => k = (nd q).cl.l ∨ k = (nd q).cl.a))) :
    ApE w t M O K kb kc mp y (r.drop m) (so + m) (sc - m) (w4.setCell ⟨q, 4, none⟩ (.iface cl'.ty (ptr cl'.l))) := by
  have hl : (r.take m).length = m := by rw [List.length_take]; omega
  have hP := hP.out
  rw [← headD_take hm] at hP
  have h := P.out.add (r1 := r.take m) (r2 := r.drop m) (List.take_append_drop _ _).symm (fun e => by rw [e] at hl; simp at hl; omega) h1 hT1 hY.out (by rw [hl]; exact hP)
  rw [hl] at h
  exact h

/-- A node's item set. -/
theorem itemX (A : Hid (TA w t mp rp M O N nd wd S sh)) (L : Hid (Lf 1 N nd)) (hq : N q) (hK : K = wd q) (hit : Hid ((nd q).it = none)) (i : Int) (kb n : Nat) :
    PutX w t mp M O K i kb (.returned (.bool true)) ((w.drewN n).setCell ⟨q, 1, none⟩ (.iface 3 (.int .i64 i))) := by
  have A := A.out
  have hM : M K = none := by rw [hK, A.C.at_ q hq, hit.out]
  have hN : (M K).isNone = true := by rw [hM]; rfl
  refine ⟨by rw [hN], O, rp, mp, .inr rfl, ?_, fun k hk => .inl hk, (Tch.dr n).setCell _ _ (fun _ => (A.own q hq).1)⟩
  rw [hN, if_pos rfl, hK]
  exact ⟨N, _, wd, S, sh, (A.dr n).setItem hq (some i) rfl, (L.out.x q).setItem _ (.inl (by simp))⟩

theorem keepX (A : Hid (TA w t mp rp M O N nd wd S sh)) (L : Hid (Lf 1 N nd)) (i : Int) (kb n : Nat) (hM : M K ≠ none) : PutX w t mp M O K i kb (.returned (.bool false)) (w.drewN n) := by
  have h : (M K).isNone = false := by cases h : M K <;> simp_all
  refine ⟨by rw [h], O, rp, mp, .inr rfl, ?_, fun k hk => .inl hk, Tch.dr n⟩
  rw [h]
  exact ⟨N, nd, wd, S, sh, A.out.dr n, L.out⟩

/-- Where the search ends beneath q. -/
theorem ApE.here (A : TA w t mp rp M O N nd wd S sh) (L : Lf 1 N nd) (hq : N q) (KA : KeyAt w kb kc K) (hkb : ¬ O kb) (hK10 : K.length ≤ 10) (eK : K = wd q ++ r) (hne : r ≠ []) (hso : so + r.length = K.length) (hsc : so + sc ≤ kc) (hrs : r.length ≤ sc) (no : ∀ c, c ∈ (nd q).cl.kids → (nd c).fb ≠ r.headD 0) (n : Nat) :
    ApE w t M O K kb kc mp q r so sc (w.drewN n) :=
  ⟨rp, O, N, nd, wd, upd S kb K, upd sh kb 0, ⟨(A.setS hkb K).dr n, hq, L.x q, fun h => absurd h hne, KA, upd_self _ _ _, upd_self _ _ _, eK, hK10, fun _ => hso, fun _ => hsc, fun _ => hrs, fun _ => no, Tch.dr n, fun k hk => .inl hk⟩⟩

/-- Behind a split. -/
theorem ApE.split {W6 : World} {u A B : List UInt8} (h : SplitR W t mp M O q u A B W6) (hT : Tch w W (fun _ => False)) (KA : KeyAt W kb kc K) (hkb : ¬ O kb) (hlt : ∀ k, O k → k < w.heap.size) (hkl : kb < w.heap.size) (hK10 : K.length ≤ 10) (eK : K = u ++ A ++ r) (hso : r ≠ [] → so + r.length = K.length) (hsc : r ≠ [] → so + sc ≤ kc) (hrs : r ≠ [] → r.length ≤ sc) (no : r ≠ [] → B.headD 0 ≠ r.headD 0) :
    ∃ mp6, (mp6 = 10 ∨ mp6 = mp) ∧ ApE w t M O K kb kc mp6 q r so sc W6 := by
  obtain ⟨O6, rp6, mp6, N6, nd6, wd6, S6, sh6, hmp, A6, hq6, L6, it6, wq6, fb6, hO6, T6⟩ := h
  have hs := hT.size
  have hkb6 : ¬ O6 kb := fun h => by
    rcases hO6 kb h with h | h
    · exact hkb h
    · omega
  obtain ⟨a1, a2, C, fr, a3, a4, a5⟩ := KA
  have hk6 : W6.heap[kb]? = W.heap[kb]? := T6.keep kb (by omega) hkb
  refine ⟨mp6, hmp, rp6, O6, N6, nd6, wd6, upd S6 kb K, upd sh6 kb 0, ⟨A6.setS hkb6 K, hq6, L6, fun _ => it6, ⟨fun j hj => ?_, a2, C, fr, hk6.trans a3, a4, fun j hj => by rw [frozen_same hk6]; exact a5 j hj⟩, upd_self _ _ _, upd_self _ _ _, by rw [wq6]; exact eK, hK10, hso, hsc, hrs, fun hr c hc => by rw [fb6 c hc]; exact no hr, (hT.mono (fun _ _ h => h.elim)).trans T6 (fun _ _ h => h), fun k hk => ?_⟩⟩
  · rw [World.cell?_of_block hk6]
    exact a1 j hj
  · rcases hO6 k hk with h | h
    · exact .inl h
    · exact .inr (.inr ⟨by omega, h.2⟩)
end

end Go.Proofs.Ytmdbnjepajifpaa
