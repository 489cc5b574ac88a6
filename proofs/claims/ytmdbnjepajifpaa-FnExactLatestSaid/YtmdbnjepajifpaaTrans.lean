/- What the changes of a trie do to its shape: an item set, a child put, a node split, a node joined with its one child, a subtree dropped. No memory here. -/
import Derived.Test.YtmdbnjepajifpaaCompact
namespace Go.Proofs.Ytmdbnjepajifpaa
open Go.RowKit

def upd {α : Type} (f : Nat → α) (k : Nat) (v : α) : Nat → α := fun x => if x = k then v else f x
theorem upd_self {α : Type} (f : Nat → α) (k : Nat) (v : α) : upd f k v k = v := by simp [upd]
theorem upd_ne {α : Type} (f : Nat → α) {k x : Nat} (v : α) (h : x ≠ k) : upd f k v x = f x := by simp [upd, h]

section
variable {root : Nat} {N : Nat → Prop} {nd : Nat → Nd} {wd : Nat → List UInt8} {S : Nat → List UInt8} {sh : Nat → Nat}

/-- An item is set. -/
theorem Inv.setItem (I : Inv root N nd wd S sh) (q : Nat) (i : Option Int) : Inv root N (upd nd q { nd q with it := i }) wd S sh := by
  have e : ∀ p, (upd nd q { nd q with it := i } p).np = (nd p).np ∧ (upd nd q { nd q with it := i } p).sb = (nd p).sb ∧ (upd nd q { nd q with it := i } p).so = (nd p).so ∧
      (upd nd q { nd q with it := i } p).px = (nd p).px ∧ (upd nd q { nd q with it := i } p).cl = (nd p).cl := by
    intro p
    by_cases h : p = q
    · subst h; rw [upd_self]; exact ⟨rfl, rfl, rfl, rfl, rfl⟩
    · rw [upd_ne _ _ h]; exact ⟨rfl, rfl, rfl, rfl, rfl⟩
  have ef : ∀ p, (upd nd q { nd q with it := i } p).fb = (nd p).fb := fun p => by unfold Nd.fb; rw [(e p).2.2.2.1]
  refine ⟨I.root_mem, ?_, ?_, ?_, ?_, ?_, ?_, ?_, ?_, ?_, I.len, ?_⟩
  · rw [(e root).2.2.2.1]; exact I.root_wd
  · intro p hp hne; rw [(e p).1]; exact I.np p hp hne
  · intro p hp c hc; rw [(e p).2.2.2.2] at hc; rw [(e c).2.2.2.1]; exact I.kid p hp c hc
  · intro p hp c d hc hd h; rw [(e p).2.2.2.2] at hc hd; rw [ef, ef] at h; exact I.ne p hp c d hc hd h
  · intro p hp; rw [(e p).2.2.2.2]; exact I.nodup p hp
  · intro p hp; rw [(e p).2.2.2.2, show (fun c => (upd nd q { nd q with it := i } c).fb) = fun c => (nd c).fb from funext ef]; exact I.placed p hp
  · intro c hc hne; obtain ⟨p, hp, h⟩ := I.par c hc hne; exact ⟨p, hp, by rw [(e p).2.2.2.2]; exact h⟩
  · intro p r hp hr h; rw [(e p).2.2.2.2, (e r).2.2.2.2] at h; exact I.sepl p r hp hr h
  · intro p r hp hr h; rw [(e p).2.2.2.2, (e r).2.2.2.2] at h; exact I.sepa p r hp hr h
  · intro p hp hn; rw [(e p).1] at hn; rw [(e p).2.1, (e p).2.2.1, (e p).2.2.2.1]; exact I.chain p hp hn

theorem placed_perm {fb fb' : Nat → UInt8} {cl : CL} (h : cl.placed fb) (he : ∀ c, c ∈ cl.kids → fb' c = fb c) : cl.placed fb' := by
  cases cl with
  | sp l a cap ks => trivial
  | dn l a mn hi arr =>
    intro i c hc
    rw [he c (by show c ∈ arr.filterMap id; simp only [List.mem_filterMap, id]; exact ⟨some c, List.mem_of_getElem? hc, rfl⟩)]
    exact h i c hc

/-- A new child y is put beneath q: the rest of the key. -/
theorem Inv.addKid (I : Inv root N nd wd S sh) {q y : Nat} {dy : Nd} {cl' : CL} (hq : N q) (hy : ¬ N y) (hnp : dy.np = false) (hpx : dy.px ≠ []) (hkids : dy.cl.kids = []) (hplc : dy.cl.placed (fun c => (nd c).fb))
    (hperm : cl'.kids.Perm (y :: (nd q).cl.kids)) (hpl : cl'.placed (fun c => (upd (upd nd q { nd q with cl := cl' }) y dy c).fb)) (hfb : ∀ c, c ∈ (nd q).cl.kids → (nd c).fb ≠ dy.fb)
    (hlen : (wd q).length + dy.px.length ≤ 10) (hso : dy.so = (wd q).length) (hsb : ∀ p, N p → (nd p).np = false → (nd p).sb ≠ dy.sb)
    (hl : ∀ p, N p → p ≠ q → (nd p).cl.l ≠ cl'.l) (hly : ∀ p, N p → (nd p).cl.l ≠ dy.cl.l) (hll : cl'.l ≠ dy.cl.l)
    (ha : ∀ p, N p → p ≠ q → (nd p).cl.a ≠ cl'.a) (hay : ∀ p, N p → (nd p).cl.a ≠ dy.cl.a) (haa : cl'.a ≠ dy.cl.a) :
    Inv root (fun x => N x ∨ x = y) (upd (upd nd q { nd q with cl := cl' }) y dy) (upd wd y (wd q ++ dy.px)) (upd S dy.sb (wd q ++ dy.px)) (upd sh dy.sb 0) := by
  have hqy : q ≠ y := fun h => hy (h ▸ hq)
  have ny : ∀ {x}, N x → x ≠ y := fun {x} hx h => hy (h ▸ hx)
  have hry : root ≠ y := ny I.root_mem
  obtain ⟨nd', hnd⟩ : ∃ n, upd (upd nd q { nd q with cl := cl' }) y dy = n := ⟨_, rfl⟩
  have ey : nd' y = dy := by rw [← hnd, upd_self]
  have eq : nd' q = { nd q with cl := cl' } := by rw [← hnd, upd_ne _ _ hqy, upd_self]
  have eo : ∀ x, x ≠ q → x ≠ y → nd' x = nd x := fun x h1 h2 => by rw [← hnd, upd_ne _ _ h2, upd_ne _ _ h1]
  have eN : ∀ x, N x → (nd' x).np = (nd x).np ∧ (nd' x).sb = (nd x).sb ∧ (nd' x).so = (nd x).so ∧ (nd' x).px = (nd x).px := by
    intro x hx
    by_cases h : x = q
    · subst h; rw [eq]; exact ⟨rfl, rfl, rfl, rfl⟩
    · rw [eo x h (ny hx)]; exact ⟨rfl, rfl, rfl, rfl⟩
  have ef : ∀ x, N x → (nd' x).fb = (nd x).fb := fun x hx => by unfold Nd.fb; rw [(eN x hx).2.2.2]
  have ec : ∀ x, N x → x ≠ q → (nd' x).cl = (nd x).cl := fun x hx h => by rw [eo x h (ny hx)]
  rw [hnd] at hpl ⊢
  have wN : ∀ x, N x → upd wd y (wd q ++ dy.px) x = wd x := fun x hx => upd_ne _ _ (ny hx)
  have km : ∀ c, c ∈ cl'.kids ↔ c = y ∨ c ∈ (nd q).cl.kids := fun c => by rw [hperm.mem_iff]; simp
  refine ⟨.inl I.root_mem, ?_, ?_, ?_, ?_, ?_, ?_, ?_, ?_, ?_, ?_, ?_⟩
  · rw [wN root I.root_mem, (eN root I.root_mem).2.2.2]; exact I.root_wd
  · rintro p (hp | rfl) hne
    · rw [(eN p hp).1]; exact I.np p hp hne
    · rw [ey]; exact hnp
  · rintro p (hp | rfl) c hc
    · by_cases hpq : p = q
      · subst hpq
        rw [eq] at hc
        rcases (km c).1 hc with rfl | hc
        · exact ⟨.inr rfl, hry.symm, by rw [upd_self, wN p hp, ey], by rw [ey]; exact hpx⟩
        · obtain ⟨h1, h2, h3, h4⟩ := I.kid p hp c hc
          exact ⟨.inl h1, h2, by rw [wN c h1, wN p hp, (eN c h1).2.2.2]; exact h3, by rw [(eN c h1).2.2.2]; exact h4⟩
      · rw [ec p hp hpq] at hc
        obtain ⟨h1, h2, h3, h4⟩ := I.kid p hp c hc
        exact ⟨.inl h1, h2, by rw [wN c h1, wN p hp, (eN c h1).2.2.2]; exact h3, by rw [(eN c h1).2.2.2]; exact h4⟩
    · rw [ey, hkids] at hc; cases hc
  · rintro p (hp | rfl) c d hc hd h
    · by_cases hpq : p = q
      · subst hpq
        rw [eq] at hc hd
        rcases (km c).1 hc with rfl | hc <;> rcases (km d).1 hd with rfl | hd
        · rfl
        · exfalso
          have hdN := (I.kid p hp d hd).1
          rw [ey, ef d hdN] at h
          exact hfb d hd h.symm
        · exfalso
          have hcN := (I.kid p hp c hc).1
          rw [ey, ef c hcN] at h
          exact hfb c hc h
        · rw [ef c (I.kid p hp c hc).1, ef d (I.kid p hp d hd).1] at h
          exact I.ne p hp c d hc hd h
      · rw [ec p hp hpq] at hc hd
        rw [ef c (I.kid p hp c hc).1, ef d (I.kid p hp d hd).1] at h
        exact I.ne p hp c d hc hd h
    · rw [ey, hkids] at hc; cases hc
  · rintro p (hp | rfl)
    · by_cases hpq : p = q
      · subst hpq
        rw [eq]
        exact hperm.nodup_iff.2 (List.nodup_cons.2 ⟨fun h => hy (I.kid p hp y h).1, I.nodup p hp⟩)
      · rw [ec p hp hpq]; exact I.nodup p hp
    · rw [ey, hkids]; exact List.nodup_nil
  · rintro p (hp | rfl)
    · by_cases hpq : p = q
      · subst hpq; rw [eq]; exact hpl
      · rw [ec p hp hpq]
        exact placed_perm (I.placed p hp) (fun c hc => ef c (I.kid p hp c hc).1)
    · rw [ey]; exact placed_perm hplc (fun c hc => by rw [hkids] at hc; cases hc)
  · rintro c (hc | rfl) hne
    · obtain ⟨p, hp, h⟩ := I.par c hc hne
      refine ⟨p, .inl hp, ?_⟩
      by_cases hpq : p = q
      · subst hpq; rw [eq]; exact (km c).2 (.inr h)
      · rw [ec p hp hpq]; exact h
    · exact ⟨q, .inl hq, by rw [eq]; exact (km c).2 (.inl rfl)⟩
  · have key : ∀ x z, N x → N z → (nd' x).cl.l = (nd' z).cl.l → x = z := by
      intro x z hx hz h
      by_cases h1 : x = q <;> by_cases h2 : z = q
      · rw [h1, h2]
      · subst h1; rw [eq, ec z hz h2] at h; exact absurd h.symm (hl z hz h2)
      · subst h2; rw [eq, ec x hx h1] at h; exact absurd h (hl x hx h1)
      · rw [ec x hx h1, ec z hz h2] at h; exact I.sepl x z hx hz h
    have ky : ∀ x, N x → (nd' x).cl.l ≠ dy.cl.l := by
      intro x hx
      by_cases h1 : x = q
      · subst h1; rw [eq]; exact hll
      · rw [ec x hx h1]; exact hly x hx
    rintro x z (hx | rfl) (hz | rfl) h
    · exact key x z hx hz h
    · rw [ey] at h; exact absurd h (ky x hx)
    · rw [ey] at h; exact absurd h.symm (ky z hz)
    · rfl
  · have key : ∀ x z, N x → N z → (nd' x).cl.a = (nd' z).cl.a → x = z := by
      intro x z hx hz h
      by_cases h1 : x = q <;> by_cases h2 : z = q
      · rw [h1, h2]
      · subst h1; rw [eq, ec z hz h2] at h; exact absurd h.symm (ha z hz h2)
      · subst h2; rw [eq, ec x hx h1] at h; exact absurd h (ha x hx h1)
      · rw [ec x hx h1, ec z hz h2] at h; exact I.sepa x z hx hz h
    have ky : ∀ x, N x → (nd' x).cl.a ≠ dy.cl.a := by
      intro x hx
      by_cases h1 : x = q
      · subst h1; rw [eq]; exact haa
      · rw [ec x hx h1]; exact hay x hx
    rintro x z (hx | rfl) (hz | rfl) h
    · exact key x z hx hz h
    · rw [ey] at h; exact absurd h (ky x hx)
    · rw [ey] at h; exact absurd h.symm (ky z hz)
    · rfl
  · rintro p (hp | rfl)
    · rw [wN p hp]; exact I.len p hp
    · rw [upd_self, List.length_append]; exact hlen
  · rintro p (hp | rfl) hn
    · rw [(eN p hp).1] at hn
      have h1 := hsb p hp hn
      rw [wN p hp, (eN p hp).2.1, (eN p hp).2.2.1, (eN p hp).2.2.2, upd_ne _ _ h1, upd_ne _ _ h1]
      exact I.chain p hp hn
    · rw [ey, upd_self, upd_self, upd_self]
      exact ⟨List.prefix_refl _, by rw [hso, List.length_append]; omega⟩

/-- The two nodes that a split leaves. -/
def splitTop (d : Nd) (A : List UInt8) (cl' : CL) : Nd := { np := false, sb := d.sb, so := d.so, sc := d.sc, px := A, it := none, mp := 10, mc := 8, cl := cl' }
def splitLow (d : Nd) (A B : List UInt8) : Nd := { d with px := B, so := d.so + A.length, sc := d.sc - A.length }

/-- A node is split: x takes what it was, but for the beginning of its part. -/
theorem Inv.split (I : Inv root N nd wd S sh) {q x : Nat} {A B u : List UInt8} {cl' : CL} (hq : N q) (hx : ¬ N x) (hnp : (nd q).np = false) (hpx : (nd q).px = A ++ B) (hB : B ≠ []) (hA : A ≠ [] ∨ q = root) (hu : wd q = u ++ (nd q).px)
    (hkids : cl'.kids = [x]) (hpl : cl'.placed (fun c => (upd (upd nd q (splitTop (nd q) A cl')) x (splitLow (nd q) A B) c).fb))
    (hl : ∀ p, N p → (nd p).cl.l ≠ cl'.l) (ha : ∀ p, N p → (nd p).cl.a ≠ cl'.a) :
    Inv root (fun y => N y ∨ y = x) (upd (upd nd q (splitTop (nd q) A cl')) x (splitLow (nd q) A B)) (upd (upd wd q (u ++ A)) x (wd q)) S sh := by
  have hqx : q ≠ x := fun h => hx (h ▸ hq)
  have nx : ∀ {y}, N y → y ≠ x := fun {y} hy h => hx (h ▸ hy)
  obtain ⟨nd', hnd⟩ : ∃ n, upd (upd nd q (splitTop (nd q) A cl')) x (splitLow (nd q) A B) = n := ⟨_, rfl⟩
  have ex : nd' x = splitLow (nd q) A B := by rw [← hnd, upd_self]
  have eq : nd' q = splitTop (nd q) A cl' := by rw [← hnd, upd_ne _ _ hqx, upd_self]
  have eo : ∀ y, N y → y ≠ q → nd' y = nd y := fun y h1 h2 => by rw [← hnd, upd_ne _ _ (nx h1), upd_ne _ _ h2]
  rw [hnd] at hpl ⊢
  have wx : upd (upd wd q (u ++ A)) x (wd q) x = wd q := upd_self _ _ _
  have wq : upd (upd wd q (u ++ A)) x (wd q) q = u ++ A := by rw [upd_ne _ _ hqx, upd_self]
  have wo : ∀ y, N y → y ≠ q → upd (upd wd q (u ++ A)) x (wd q) y = wd y := fun y h1 h2 => by rw [upd_ne _ _ (nx h1), upd_ne _ _ h2]
  generalize upd (upd wd q (u ++ A)) x (wd q) = wd' at *
  have huq : wd q = u ++ A ++ B := by rw [hu, hpx, List.append_assoc]
  -- q is nobody's child but its parent's; its first byte stands
  have fq : q ≠ root → (nd' q).fb = (nd q).fb := fun hne => by
    rcases hA with hA | hA
    · unfold Nd.fb
      rw [eq, hpx]
      cases A with
      | nil => exact absurd rfl hA
      | cons a r => rfl
    · exact absurd hA hne
  have fo : ∀ y, N y → y ≠ root → (nd' y).fb = (nd y).fb := fun y hy hne => by
    by_cases h : y = q
    · subst h; exact fq hne
    · rw [eo y hy h]
  have kidq : ∀ p, N p → q ∉ (nd q).cl.kids := fun p _ h => by have := I.kid_longer hq h; omega
  refine ⟨.inl I.root_mem, ?_, ?_, ?_, ?_, ?_, ?_, ?_, ?_, ?_, ?_, ?_⟩
  · by_cases h : root = q
    · subst h
      rw [wq, eq]
      have h1 := I.root_wd
      rw [hu] at h1
      have h2 : u = [] := by simpa using congrArg List.length h1
      rw [h2]; rfl
    · rw [wo root I.root_mem h, eo root I.root_mem h]; exact I.root_wd
  · rintro p (hp | rfl) hne
    · by_cases h : p = q
      · subst h; rw [eq]; rfl
      · rw [eo p hp h]; exact I.np p hp hne
    · rw [ex]; exact hnp
  · rintro p (hp | rfl) c hc
    · by_cases hpq : p = q
      · subst hpq
        rw [eq] at hc
        have hc' : c ∈ cl'.kids := hc
        rw [hkids] at hc'
        simp at hc'
        subst hc'
        exact ⟨.inr rfl, (nx I.root_mem).symm, by rw [wx, wq, ex]; exact huq, by rw [ex]; exact hB⟩
      · rw [eo p hp hpq] at hc
        obtain ⟨h1, h2, h3, h4⟩ := I.kid p hp c hc
        by_cases hcq : c = q
        · subst hcq
          refine ⟨.inl h1, h2, ?_, ?_⟩
          · rw [wq, wo p hp hpq, eq]
            show u ++ A = wd p ++ A
            rw [hu] at h3
            rw [List.append_cancel_right h3]
          · rw [eq]
            rcases hA with hA | hA
            · exact hA
            · exact absurd hA h2
        · exact ⟨.inl h1, h2, by rw [wo c h1 hcq, wo p hp hpq, eo c h1 hcq]; exact h3, by rw [eo c h1 hcq]; exact h4⟩
    · rw [ex] at hc
      have hc' : c ∈ (nd q).cl.kids := hc
      obtain ⟨h1, h2, h3, h4⟩ := I.kid q hq c hc'
      have hcq : c ≠ q := fun h => kidq q hq (h ▸ hc')
      exact ⟨.inl h1, h2, by rw [wo c h1 hcq, wx, eo c h1 hcq]; exact h3, by rw [eo c h1 hcq]; exact h4⟩
  · rintro p (hp | rfl) c d hc hd h
    · by_cases hpq : p = q
      · subst hpq
        rw [eq] at hc hd
        have hc' : c ∈ cl'.kids := hc
        have hd' : d ∈ cl'.kids := hd
        rw [hkids] at hc' hd'
        simp at hc' hd'
        rw [hc', hd']
      · rw [eo p hp hpq] at hc hd
        obtain ⟨h1, h2, _, _⟩ := I.kid p hp c hc
        obtain ⟨g1, g2, _, _⟩ := I.kid p hp d hd
        rw [fo c h1 h2, fo d g1 g2] at h
        exact I.ne p hp c d hc hd h
    · rw [ex] at hc hd
      have hc' : c ∈ (nd q).cl.kids := hc
      have hd' : d ∈ (nd q).cl.kids := hd
      obtain ⟨h1, h2, _, _⟩ := I.kid q hq c hc'
      obtain ⟨g1, g2, _, _⟩ := I.kid q hq d hd'
      rw [fo c h1 h2, fo d g1 g2] at h
      exact I.ne q hq c d hc' hd' h
  · rintro p (hp | rfl)
    · by_cases hpq : p = q
      · subst hpq
        rw [eq]
        show cl'.kids.Nodup
        rw [hkids]
        simp
      · rw [eo p hp hpq]; exact I.nodup p hp
    · rw [ex]; exact I.nodup q hq
  · rintro p (hp | rfl)
    · by_cases hpq : p = q
      · subst hpq; rw [eq]; exact hpl
      · rw [eo p hp hpq]
        exact placed_perm (I.placed p hp) (fun c hc => fo c (I.kid p hp c hc).1 (I.kid p hp c hc).2.1)
    · rw [ex]
      exact placed_perm (I.placed q hq) (fun c hc => fo c (I.kid q hq c hc).1 (I.kid q hq c hc).2.1)
  · rintro c (hc | rfl) hne
    · obtain ⟨p, hp, h⟩ := I.par c hc hne
      by_cases hpq : p = q
      · subst hpq; exact ⟨x, .inr rfl, by rw [ex]; exact h⟩
      · exact ⟨p, .inl hp, by rw [eo p hp hpq]; exact h⟩
    · exact ⟨q, .inl hq, by rw [eq]; show c ∈ cl'.kids; rw [hkids]; simp⟩
  · have hxl : (nd' x).cl.l = (nd q).cl.l := by rw [ex]; rfl
    have hql : (nd' q).cl.l = cl'.l := by rw [eq]; rfl
    rintro y z (hy | rfl) (hz | rfl) h
    · by_cases h1 : y = q <;> by_cases h2 : z = q
      · rw [h1, h2]
      · subst h1; rw [hql, eo z hz h2] at h; exact absurd h.symm (hl z hz)
      · subst h2; rw [hql, eo y hy h1] at h; exact absurd h (hl y hy)
      · rw [eo y hy h1, eo z hz h2] at h; exact I.sepl y z hy hz h
    · rw [hxl] at h
      by_cases h1 : y = q
      · subst h1; rw [hql] at h; exact absurd h.symm (hl y hy)
      · rw [eo y hy h1] at h; exact absurd (I.sepl y q hy hq h) h1
    · rw [hxl] at h
      by_cases h1 : z = q
      · subst h1; rw [hql] at h; exact absurd h (hl z hz)
      · rw [eo z hz h1] at h; exact absurd (I.sepl z q hz hq h.symm) h1
    · rfl
  · have hxl : (nd' x).cl.a = (nd q).cl.a := by rw [ex]; rfl
    have hql : (nd' q).cl.a = cl'.a := by rw [eq]; rfl
    rintro y z (hy | rfl) (hz | rfl) h
    · by_cases h1 : y = q <;> by_cases h2 : z = q
      · rw [h1, h2]
      · subst h1; rw [hql, eo z hz h2] at h; exact absurd h.symm (ha z hz)
      · subst h2; rw [hql, eo y hy h1] at h; exact absurd h (ha y hy)
      · rw [eo y hy h1, eo z hz h2] at h; exact I.sepa y z hy hz h
    · rw [hxl] at h
      by_cases h1 : y = q
      · subst h1; rw [hql] at h; exact absurd h.symm (ha y hy)
      · rw [eo y hy h1] at h; exact absurd (I.sepa y q hy hq h) h1
    · rw [hxl] at h
      by_cases h1 : z = q
      · subst h1; rw [hql] at h; exact absurd h (ha z hz)
      · rw [eo z hz h1] at h; exact absurd (I.sepa z q hz hq h.symm) h1
    · rfl
  · rintro p (hp | rfl)
    · by_cases hpq : p = q
      · subst hpq
        rw [wq]
        have := I.len p hp
        rw [huq] at this
        simp at this ⊢
        omega
      · rw [wo p hp hpq]; exact I.len p hp
    · rw [wx]; exact I.len q hq
  · have hch := I.chain q hq hnp
    rw [hpx, huq] at hch
    simp only [List.length_append] at hch
    rintro p (hp | rfl) hn
    · by_cases hpq : p = q
      · subst hpq
        rw [wq, eq]
        refine ⟨(List.prefix_append _ _).trans hch.1, ?_⟩
        show (nd p).so + sh (nd p).sb + A.length = (u ++ A).length
        rw [List.length_append]
        omega
      · rw [wo p hp hpq, eo p hp hpq]
        rw [eo p hp hpq] at hn
        exact I.chain p hp hn
    · rw [wx, ex]
      refine ⟨by rw [huq]; exact hch.1, ?_⟩
      show (nd q).so + A.length + sh (nd q).sb + B.length = (wd q).length
      rw [huq]
      simp only [List.length_append]
      omega

/-- Where the bytes of a joined node lie: behind the upper one's, or in a new block. -/
def Laid (N : Nat → Prop) (nd : Nat → Nd) (p : Nat) (d' : Nd) : Prop :=
  (d'.sb = (nd p).sb ∧ d'.so = (nd p).so) ∨ (d'.so = 0 ∧ ∀ r, N r → (nd r).np = false → (nd r).sb ≠ d'.sb)

open Classical in
/-- The words and places of the blocks of bytes, after a join of p with its one child c. -/
theorem Inv.chain_join (I : Inv root N nd wd S sh) {p c : Nat} {d' : Nd} (hp : N p) (hnp : (nd p).np = false) (hc : (nd p).cl.kids = [c]) (hpx : d'.px = (nd p).px ++ (nd c).px) (hL : Laid N nd p d') :
    ∃ (S' : Nat → List UInt8) (sh' : Nat → Nat), (wd c <+: S' d'.sb ∧ d'.so + sh' d'.sb + d'.px.length = (wd c).length) ∧
      ∀ r, N r → r ≠ p → (nd r).np = false → wd r <+: S' (nd r).sb ∧ (nd r).so + sh' (nd r).sb + (nd r).px.length = (wd r).length := by
  obtain ⟨hcN, _, hw, _⟩ := I.kid p hp c (by rw [hc]; simp)
  have hlen : (wd c).length = (wd p).length + (nd c).px.length := by rw [hw, List.length_append]
  obtain ⟨ch1, ch2⟩ := I.chain p hp hnp
  rcases hL with ⟨hsb, hso⟩ | ⟨hso, hnew⟩
  · refine ⟨if wd c <+: S (nd p).sb then S else upd S (nd p).sb (wd c), sh, ⟨?_, ?_⟩, fun r hr hrp hrn => ?_⟩
    · rw [hsb]
      split
      · assumption
      · rw [upd_self]; exact List.prefix_refl _
    · rw [hsb, hso, hpx, List.length_append]; omega
    · obtain ⟨r1, r2⟩ := I.chain r hr hrn
      refine ⟨?_, r2⟩
      split
      · exact r1
      · rename_i hno
        by_cases hb : (nd r).sb = (nd p).sb
        · rw [hb, upd_self]
          rw [hb] at r1
          have hpc : wd p <+: wd c := I.kid_pre hp (by rw [hc]; simp)
          rcases pre_total r1 ch1 with h | h
          · exact h.trans hpc
          · exfalso
            rcases I.desc hp hr h with h' | ⟨c', hc', h'⟩
            · exact hrp h'
            · rw [hc] at hc'
              simp at hc'
              subst hc'
              exact hno (h'.trans r1)
        · rw [upd_ne _ _ hb]; exact r1
  · refine ⟨upd S d'.sb (wd c), upd sh d'.sb ((wd p).length - (nd p).px.length), ⟨?_, ?_⟩, fun r hr hrp hrn => ?_⟩
    · rw [upd_self]; exact List.prefix_refl _
    · rw [upd_self, hso, hpx, List.length_append]; omega
    · have hb := hnew r hr hrn
      rw [upd_ne _ _ hb, upd_ne _ _ hb]
      exact I.chain r hr hrn

/-- A node p without an item is joined with its one child c: c takes its place beneath P. -/
theorem Inv.join (I : Inv root N nd wd S sh) {P p c : Nat} {d' : Nd} {cl' : CL} (hP : N P) (hp : p ∈ (nd P).cl.kids) (hc : (nd p).cl.kids = [c]) (hnp : d'.np = false) (hpx : d'.px = (nd p).px ++ (nd c).px) (hcl : d'.cl = (nd c).cl) (hL : Laid N nd p d')
    (km : ∀ x, x ∈ cl'.kids ↔ (x ∈ (nd P).cl.kids ∧ x ≠ p) ∨ x = c) (hnd : cl'.kids.Nodup) (hpl : cl'.placed (fun x => (upd (upd nd P { nd P with cl := cl' }) c d' x).fb))
    (hl : ∀ r, N r → r ≠ P → r ≠ p → (nd r).cl.l ≠ cl'.l) (ha : ∀ r, N r → r ≠ P → r ≠ p → (nd r).cl.a ≠ cl'.a) :
    ∃ (S' : Nat → List UInt8) (sh' : Nat → Nat), Inv root (fun x => N x ∧ x ≠ p) (upd (upd nd P { nd P with cl := cl' }) c d') wd S' sh' := by
  obtain ⟨hpN, hpr, hpw, hpx0⟩ := I.kid P hP p hp
  obtain ⟨hcN, hcr, hcw, hcx0⟩ := I.kid p hpN c (by rw [hc]; simp)
  have l1 := I.kid_longer hP hp
  have l2 := I.kid_longer hpN (c := c) (by rw [hc]; simp)
  have hPc : P ≠ c := fun h => by rw [h] at l1; omega
  have hPp : P ≠ p := fun h => by rw [h] at l1; omega
  have hpc : p ≠ c := fun h => by rw [h] at l2; omega
  obtain ⟨S', sh', ⟨c1, c2⟩, c3⟩ := I.chain_join hpN (I.np p hpN hpr) hc hpx hL
  obtain ⟨nd', hnd'⟩ : ∃ n, upd (upd nd P { nd P with cl := cl' }) c d' = n := ⟨_, rfl⟩
  have ec : nd' c = d' := by rw [← hnd', upd_self]
  have eP : nd' P = { nd P with cl := cl' } := by rw [← hnd', upd_ne _ _ hPc, upd_self]
  have eo : ∀ x, x ≠ P → x ≠ c → nd' x = nd x := fun x h1 h2 => by rw [← hnd', upd_ne _ _ h2, upd_ne _ _ h1]
  rw [hnd'] at hpl
  refine ⟨S', sh', ?_⟩
  rw [hnd']
  have ek : ∀ x, x ≠ P → (nd' x).cl = (nd x).cl := fun x h => by
    by_cases h2 : x = c
    · subst h2; rw [ec]; exact hcl
    · rw [eo x h h2]
  have en : ∀ x, x ≠ c → (nd' x).np = (nd x).np ∧ (nd' x).sb = (nd x).sb ∧ (nd' x).so = (nd x).so ∧ (nd' x).px = (nd x).px := fun x h => by
    by_cases h2 : x = P
    · subst h2; rw [eP]; exact ⟨rfl, rfl, rfl, rfl⟩
    · rw [eo x h2 h]; exact ⟨rfl, rfl, rfl, rfl⟩
  have ef : ∀ x, x ≠ c → (nd' x).fb = (nd x).fb := fun x h => by unfold Nd.fb; rw [(en x h).2.2.2]
  have efc : (nd' c).fb = (nd p).fb := by
    unfold Nd.fb
    rw [ec, hpx]
    cases hx : (nd p).px with
    | nil => exact absurd hx hpx0
    | cons a r => rfl
  -- c is the child of p alone
  have only : ∀ x, N x → c ∈ (nd x).cl.kids → x = p := fun x hx h => I.par_unique hx hpN h (by rw [hc]; simp)
  have onlyp : ∀ x, N x → p ∈ (nd x).cl.kids → x = P := fun x hx h => I.par_unique hx hP h hp
  refine ⟨⟨I.root_mem, fun h => hpr h.symm⟩, ?_, ?_, ?_, ?_, ?_, ?_, ?_, ?_, ?_, ?_, ?_⟩
  · rw [(en root (fun h => hcr h.symm)).2.2.2]; exact I.root_wd
  · rintro x ⟨hx, hxp⟩ hne
    by_cases h : x = c
    · subst h; rw [ec]; exact hnp
    · rw [(en x h).1]; exact I.np x hx hne
  · rintro x ⟨hx, hxp⟩ y hy
    by_cases h : x = P
    · subst h
      rw [eP] at hy
      rcases (km y).1 hy with ⟨hy1, hyp⟩ | rfl
      · obtain ⟨h1, h2, h3, h4⟩ := I.kid x hx y hy1
        have hyc : y ≠ c := fun e => by
          subst e; exact hPp (only x hx hy1)
        exact ⟨⟨h1, hyp⟩, h2, by rw [(en y hyc).2.2.2]; exact h3, by rw [(en y hyc).2.2.2]; exact h4⟩
      · refine ⟨⟨hcN, fun h => hpc h.symm⟩, hcr, ?_, ?_⟩
        · rw [ec, hpx, hcw, hpw, List.append_assoc]
        · rw [ec, hpx]; simp [hpx0]
    · rw [ek x h] at hy
      obtain ⟨h1, h2, h3, h4⟩ := I.kid x hx y hy
      have hyc : y ≠ c := fun e => by subst e; exact hxp (only x hx hy)
      have hyp : y ≠ p := fun e => by subst e; exact h (onlyp x hx hy)
      exact ⟨⟨h1, hyp⟩, h2, by rw [(en y hyc).2.2.2]; exact h3, by rw [(en y hyc).2.2.2]; exact h4⟩
  · rintro x ⟨hx, hxp⟩ y z hy hz h
    by_cases hxP : x = P
    · subst hxP
      rw [eP] at hy hz
      rcases (km y).1 hy with ⟨hy1, hyp⟩ | rfl <;> rcases (km z).1 hz with ⟨hz1, hzp⟩ | rfl
      · have hyc : y ≠ c := fun e => by subst e; exact hPp (only x hx hy1)
        have hzc : z ≠ c := fun e => by subst e; exact hPp (only x hx hz1)
        rw [ef y hyc, ef z hzc] at h
        exact I.ne x hx y z hy1 hz1 h
      · have hyc : y ≠ z := fun e => by subst e; exact hPp (only x hx hy1)
        rw [ef y hyc, efc] at h
        exact absurd (I.ne x hx y p hy1 hp h) hyp
      · have hzc : z ≠ y := fun e => by subst e; exact hPp (only x hx hz1)
        rw [ef z hzc, efc] at h
        exact absurd (I.ne x hx z p hz1 hp h.symm) hzp
      · rfl
    · rw [ek x hxP] at hy hz
      have hyc : y ≠ c := fun e => by subst e; exact hxp (only x hx hy)
      have hzc : z ≠ c := fun e => by subst e; exact hxp (only x hx hz)
      rw [ef y hyc, ef z hzc] at h
      exact I.ne x hx y z hy hz h
  · rintro x ⟨hx, hxp⟩
    by_cases hxP : x = P
    · subst hxP; rw [eP]; exact hnd
    · rw [ek x hxP]; exact I.nodup x hx
  · rintro x ⟨hx, hxp⟩
    by_cases hxP : x = P
    · subst hxP; rw [eP]; exact hpl
    · rw [ek x hxP]
      exact placed_perm (I.placed x hx) (fun y hy => ef y (fun e => by subst e; exact hxp (only x hx hy)))
  · rintro x ⟨hx, hxp⟩ hne
    obtain ⟨y, hy, h⟩ := I.par x hx hne
    by_cases hyp : y = p
    · subst hyp
      rw [hc] at h
      simp at h
      subst h
      exact ⟨P, ⟨hP, hPp⟩, by rw [eP]; exact (km x).2 (.inr rfl)⟩
    · refine ⟨y, ⟨hy, hyp⟩, ?_⟩
      by_cases hyP : y = P
      · subst hyP; rw [eP]; exact (km x).2 (.inl ⟨h, hxp⟩)
      · rw [ek y hyP]; exact h
  · rintro x y ⟨hx, hxp⟩ ⟨hy, hyp⟩ h
    by_cases h1 : x = P <;> by_cases h2 : y = P
    · rw [h1, h2]
    · subst h1; rw [eP, ek y h2] at h; exact absurd h.symm (hl y hy h2 hyp)
    · subst h2; rw [eP, ek x h1] at h; exact absurd h (hl x hx h1 hxp)
    · rw [ek x h1, ek y h2] at h; exact I.sepl x y hx hy h
  · rintro x y ⟨hx, hxp⟩ ⟨hy, hyp⟩ h
    by_cases h1 : x = P <;> by_cases h2 : y = P
    · rw [h1, h2]
    · subst h1; rw [eP, ek y h2] at h; exact absurd h.symm (ha y hy h2 hyp)
    · subst h2; rw [eP, ek x h1] at h; exact absurd h (ha x hx h1 hxp)
    · rw [ek x h1, ek y h2] at h; exact I.sepa x y hx hy h
  · rintro x ⟨hx, _⟩; exact I.len x hx
  · rintro x ⟨hx, hxp⟩ hn
    by_cases h : x = c
    · subst h; rw [ec]; exact ⟨c1, c2⟩
    · rw [(en x h).1] at hn
      rw [(en x h).2.1, (en x h).2.2.1, (en x h).2.2.2]
      exact c3 x hx hxp hn

end

end Go.Proofs.Ytmdbnjepajifpaa
