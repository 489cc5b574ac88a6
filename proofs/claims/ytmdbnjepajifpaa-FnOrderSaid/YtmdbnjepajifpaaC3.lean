/- Tries in memory, part C3. Lemmas; no statement of their own. -/
import Derived.Test.YtmdbnjepajifpaaC2
import Derived.ScopeJumps

/- What the changes of a trie do to its shape: an item set, a child put, a node split, a node joined with its one child, a subtree dropped. No memory here. -/
set_option linter.unusedVariables false
set_option linter.unusedSimpArgs false
namespace Go.Proofs.Ytmdbnjepajifpaa
open Go.RowKit

def upd {α : Type} (f : Nat → α) (k : Nat) (v : α) : Nat → α := fun x => if x = k then v else f x
theorem upd_self {α : Type} (f : Nat → α) (k : Nat) (v : α) : upd f k v k = v := by simp [upd]
theorem upd_ne {α : Type} (f : Nat → α) {k x : Nat} (v : α) (h : x ≠ k) : upd f k v x = f x := by simp [upd, h]

section
variable {root : Nat} {N : Nat → Prop} {nd : Nat → Nd} {wd : Nat → List UInt8} {S : Nat → List UInt8} {sh : Nat → Nat}

/-- An item is set. -/
theorem Inv.setItem (I : Inv root N nd wd S sh) (q : Nat) (i : Option Int) : Inv root N (upd nd q { nd q with it := i }) wd S sh := by
  have e : ∀ p, (upd nd q { nd q with it := i } p).np = (nd p).np ∧ (upd nd q { nd q with it := i } p).sb = (nd p).sb ∧ (upd nd q { nd q with it := i } p).so = (nd p).so ∧
      (upd nd q { nd q with it := i } p).px = (nd p).px ∧ (upd nd q { nd q with it := i } p).cl = (nd p).cl := by
    intro p
    by_cases h : p = q
    · subst h; rw [upd_self]; exact ⟨rfl, rfl, rfl, rfl, rfl⟩
    · rw [upd_ne _ _ h]; exact ⟨rfl, rfl, rfl, rfl, rfl⟩
  have ef : ∀ p, (upd nd q { nd q with it := i } p).fb = (nd p).fb := fun p => by unfold Nd.fb; rw [(e p).2.2.2.1]
  refine ⟨I.root_mem, ?_, ?_, ?_, ?_, ?_, ?_, ?_, ?_, ?_, I.len, ?_⟩
  · rw [(e root).2.2.2.1]; exact I.root_wd
  · intro p hp hne; rw [(e p).1]; exact I.np p hp hne
  · intro p hp c hc; rw [(e p).2.2.2.2] at hc; rw [(e c).2.2.2.1]; exact I.kid p hp c hc
  · intro p hp c d hc hd h; rw [(e p).2.2.2.2] at hc hd; rw [ef, ef] at h; exact I.ne p hp c d hc hd h
  · intro p hp; rw [(e p).2.2.2.2]; exact I.nodup p hp
  · intro p hp; rw [(e p).2.2.2.2, show (fun c => (upd nd q { nd q with it := i } c).fb) = fun c => (nd c).fb from funext ef]; exact I.placed p hp
  · intro c hc hne; obtain ⟨p, hp, h⟩ := I.par c hc hne; exact ⟨p, hp, by rw [(e p).2.2.2.2]; exact h⟩
  · intro p r hp hr h; rw [(e p).2.2.2.2, (e r).2.2.2.2] at h; exact I.sepl p r hp hr h
  · intro p r hp hr h; rw [(e p).2.2.2.2, (e r).2.2.2.2] at h; exact I.sepa p r hp hr h
  · intro p hp hn; rw [(e p).1] at hn; rw [(e p).2.1, (e p).2.2.1, (e p).2.2.2.1]; exact I.chain p hp hn

theorem placed_perm {fb fb' : Nat → UInt8} {cl : CL} (h : cl.placed fb) (he : ∀ c, c ∈ cl.kids → fb' c = fb c) : cl.placed fb' := by
  cases cl with
  | sp l a cap ks => trivial
  | dn l a mn hi arr =>
    intro i c hc
    rw [he c (by show c ∈ arr.filterMap id; simp only [List.mem_filterMap, id]; exact ⟨some c, List.mem_of_getElem? hc, rfl⟩)]
    exact h i c hc

/-- A new child y is put beneath q: the rest of the key. -/
theorem Inv.addKid (I : Inv root N nd wd S sh) {q y : Nat} {dy : Nd} {cl' : CL} (hq : N q) (hy : ¬ N y) (hnp : dy.np = false) (hpx : dy.px ≠ []) (hkids : dy.cl.kids = []) (hplc : dy.cl.placed (fun c => (nd c).fb))
    (hperm : cl'.kids.Perm (y :: (nd q).cl.kids)) (hpl : cl'.placed (fun c => (upd (upd nd q { nd q with cl := cl' }) y dy c).fb)) (hfb : ∀ c, c ∈ (nd q).cl.kids → (nd c).fb ≠ dy.fb)
    (hlen : (wd q).length + dy.px.length ≤ 10) (hso : dy.so = (wd q).length) (hsb : ∀ p, N p → (nd p).np = false → (nd p).sb ≠ dy.sb)
    (hl : ∀ p, N p → p ≠ q → (nd p).cl.l ≠ cl'.l) (hly : ∀ p, N p → (nd p).cl.l ≠ dy.cl.l) (hll : cl'.l ≠ dy.cl.l)
    (ha : ∀ p, N p → p ≠ q → (nd p).cl.a ≠ cl'.a) (hay : ∀ p, N p → (nd p).cl.a ≠ dy.cl.a) (haa : cl'.a ≠ dy.cl.a) :
    Inv root (fun x => N x ∨ x = y) (upd (upd nd q { nd q with cl := cl' }) y dy) (upd wd y (wd q ++ dy.px)) (upd S dy.sb (wd q ++ dy.px)) (upd sh dy.sb 0) := by
  have hqy : q ≠ y := fun h => hy (h ▸ hq)
  have ny : ∀ {x}, N x → x ≠ y := fun {x} hx h => hy (h ▸ hx)
  have hry : root ≠ y := ny I.root_mem
  obtain ⟨nd', hnd⟩ : ∃ n, upd (upd nd q { nd q with cl := cl' }) y dy = n := ⟨_, rfl⟩
  have ey : nd' y = dy := by rw [← hnd, upd_self]
  have eq : nd' q = { nd q with cl := cl' } := by rw [← hnd, upd_ne _ _ hqy, upd_self]
  have eo : ∀ x, x ≠ q → x ≠ y → nd' x = nd x := fun x h1 h2 => by rw [← hnd, upd_ne _ _ h2, upd_ne _ _ h1]
  have eN : ∀ x, N x → (nd' x).np = (nd x).np ∧ (nd' x).sb = (nd x).sb ∧ (nd' x).so = (nd x).so ∧ (nd' x).px = (nd x).px := by
    intro x hx
    by_cases h : x = q
    · subst h; rw [eq]; exact ⟨rfl, rfl, rfl, rfl⟩
    · rw [eo x h (ny hx)]; exact ⟨rfl, rfl, rfl, rfl⟩
  have ef : ∀ x, N x → (nd' x).fb = (nd x).fb := fun x hx => by unfold Nd.fb; rw [(eN x hx).2.2.2]
  have ec : ∀ x, N x → x ≠ q → (nd' x).cl = (nd x).cl := fun x hx h => by rw [eo x h (ny hx)]
  rw [hnd] at hpl ⊢
  have wN : ∀ x, N x → upd wd y (wd q ++ dy.px) x = wd x := fun x hx => upd_ne _ _ (ny hx)
  have km : ∀ c, c ∈ cl'.kids ↔ c = y ∨ c ∈ (nd q).cl.kids := fun c => by rw [hperm.mem_iff]; simp
  refine ⟨.inl I.root_mem, ?_, ?_, ?_, ?_, ?_, ?_, ?_, ?_, ?_, ?_, ?_⟩
  · rw [wN root I.root_mem, (eN root I.root_mem).2.2.2]; exact I.root_wd
  · rintro p (hp | rfl) hne
    · rw [(eN p hp).1]; exact I.np p hp hne
    · rw [ey]; exact hnp
  · rintro p (hp | rfl) c hc
    · by_cases hpq : p = q
      · subst hpq
        rw [eq] at hc
        rcases (km c).1 hc with rfl | hc
        · exact ⟨.inr rfl, hry.symm, by rw [upd_self, wN p hp, ey], by rw [ey]; exact hpx⟩
        · obtain ⟨h1, h2, h3, h4⟩ := I.kid p hp c hc
          exact ⟨.inl h1, h2, by rw [wN c h1, wN p hp, (eN c h1).2.2.2]; exact h3, by rw [(eN c h1).2.2.2]; exact h4⟩
      · rw [ec p hp hpq] at hc
        obtain ⟨h1, h2, h3, h4⟩ := I.kid p hp c hc
        exact ⟨.inl h1, h2, by rw [wN c h1, wN p hp, (eN c h1).2.2.2]; exact h3, by rw [(eN c h1).2.2.2]; exact h4⟩
    · rw [ey, hkids] at hc; cases hc
  · rintro p (hp | rfl) c d hc hd h
    · by_cases hpq : p = q
      · subst hpq
        rw [eq] at hc hd
        rcases (km c).1 hc with rfl | hc <;> rcases (km d).1 hd with rfl | hd
        · rfl
        · exfalso
          have hdN := (I.kid p hp d hd).1
          rw [ey, ef d hdN] at h
          exact hfb d hd h.symm
        · exfalso
          have hcN := (I.kid p hp c hc).1
          rw [ey, ef c hcN] at h
          exact hfb c hc h
        · rw [ef c (I.kid p hp c hc).1, ef d (I.kid p hp d hd).1] at h
          exact I.ne p hp c d hc hd h
      · rw [ec p hp hpq] at hc hd
        rw [ef c (I.kid p hp c hc).1, ef d (I.kid p hp d hd).1] at h
        exact I.ne p hp c d hc hd h
    · rw [ey, hkids] at hc; cases hc
  · rintro p (hp | rfl)
    · by_cases hpq : p = q
      · subst hpq
        rw [eq]
        exact hperm.nodup_iff.2 (List.nodup_cons.2 ⟨fun h => hy (I.kid p hp y h).1, I.nodup p hp⟩)
      · rw [ec p hp hpq]; exact I.nodup p hp
    · rw [ey, hkids]; exact List.nodup_nil
  · rintro p (hp | rfl)
    · by_cases hpq : p = q
      · subst hpq; rw [eq]; exact hpl
      · rw [ec p hp hpq]
        exact placed_perm (I.placed p hp) (fun c hc => ef c (I.kid p hp c hc).1)
    · rw [ey]; exact placed_perm hplc (fun c hc => by rw [hkids] at hc; cases hc)
  · rintro c (hc | rfl) hne
    · obtain ⟨p, hp, h⟩ := I.par c hc hne
      refine ⟨p, .inl hp, ?_⟩
      by_cases hpq : p = q
      · subst hpq; rw [eq]; exact (km c).2 (.inr h)
      · rw [ec p hp hpq]; exact h
    · exact ⟨q, .inl hq, by rw [eq]; exact (km c).2 (.inl rfl)⟩
  · have key : ∀ x z, N x → N z → (nd' x).cl.l = (nd' z).cl.l → x = z := by
      intro x z hx hz h
      by_cases h1 : x = q <;> by_cases h2 : z = q
      · rw [h1, h2]
      · subst h1; rw [eq, ec z hz h2] at h; exact absurd h.symm (hl z hz h2)
      · subst h2; rw [eq, ec x hx h1] at h; exact absurd h (hl x hx h1)
      · rw [ec x hx h1, ec z hz h2] at h; exact I.sepl x z hx hz h
    have ky : ∀ x, N x → (nd' x).cl.l ≠ dy.cl.l := by
      intro x hx
      by_cases h1 : x = q
      · subst h1; rw [eq]; exact hll
      · rw [ec x hx h1]; exact hly x hx
    rintro x z (hx | rfl) (hz | rfl) h
    · exact key x z hx hz h
    · rw [ey] at h; exact absurd h (ky x hx)
    · rw [ey] at h; exact absurd h.symm (ky z hz)
    · rfl
  · have key : ∀ x z, N x → N z → (nd' x).cl.a = (nd' z).cl.a → x = z := by
      intro x z hx hz h
      by_cases h1 : x = q <;> by_cases h2 : z = q
      · rw [h1, h2]
      · subst h1; rw [eq, ec z hz h2] at h; exact absurd h.symm (ha z hz h2)
      · subst h2; rw [eq, ec x hx h1] at h; exact absurd h (ha x hx h1)
      · rw [ec x hx h1, ec z hz h2] at h; exact I.sepa x z hx hz h
    have ky : ∀ x, N x → (nd' x).cl.a ≠ dy.cl.a := by
      intro x hx
      by_cases h1 : x = q
      · subst h1; rw [eq]; exact haa
      · rw [ec x hx h1]; exact hay x hx
    rintro x z (hx | rfl) (hz | rfl) h
    · exact key x z hx hz h
    · rw [ey] at h; exact absurd h (ky x hx)
    · rw [ey] at h; exact absurd h.symm (ky z hz)
    · rfl
  · rintro p (hp | rfl)
    · rw [wN p hp]; exact I.len p hp
    · rw [upd_self, List.length_append]; exact hlen
  · rintro p (hp | rfl) hn
    · rw [(eN p hp).1] at hn
      have h1 := hsb p hp hn
      rw [wN p hp, (eN p hp).2.1, (eN p hp).2.2.1, (eN p hp).2.2.2, upd_ne _ _ h1, upd_ne _ _ h1]
      exact I.chain p hp hn
    · rw [ey, upd_self, upd_self, upd_self]
      exact ⟨List.prefix_refl _, by rw [hso, List.length_append]; omega⟩

/-- The two nodes that a split leaves. -/
def splitTop (d : Nd) (A : List UInt8) (cl' : CL) : Nd := { np := false, sb := d.sb, so := d.so, sc := d.sc, px := A, it := none, mp := 10, mc := 8, cl := cl' }
def splitLow (d : Nd) (A B : List UInt8) : Nd := { d with px := B, so := d.so + A.length, sc := d.sc - A.length }

/-- A node is split: x takes what it was, but for the beginning of its part. -/
theorem Inv.split (I : Inv root N nd wd S sh) {q x : Nat} {A B u : List UInt8} {cl' : CL} (hq : N q) (hx : ¬ N x) (hnp : (nd q).np = false) (hpx : (nd q).px = A ++ B) (hB : B ≠ []) (hA : A ≠ [] ∨ q = root) (hu : wd q = u ++ (nd q).px)
    (hkids : cl'.kids = [x]) (hpl : cl'.placed (fun c => (upd (upd nd q (splitTop (nd q) A cl')) x (splitLow (nd q) A B) c).fb))
    (hl : ∀ p, N p → (nd p).cl.l ≠ cl'.l) (ha : ∀ p, N p → (nd p).cl.a ≠ cl'.a) :
    Inv root (fun y => N y ∨ y = x) (upd (upd nd q (splitTop (nd q) A cl')) x (splitLow (nd q) A B)) (upd (upd wd q (u ++ A)) x (wd q)) S sh := by
  have hqx : q ≠ x := fun h => hx (h ▸ hq)
  have nx : ∀ {y}, N y → y ≠ x := fun {y} hy h => hx (h ▸ hy)
  obtain ⟨nd', hnd⟩ : ∃ n, upd (upd nd q (splitTop (nd q) A cl')) x (splitLow (nd q) A B) = n := ⟨_, rfl⟩
  have ex : nd' x = splitLow (nd q) A B := by rw [← hnd, upd_self]
  have eq : nd' q = splitTop (nd q) A cl' := by rw [← hnd, upd_ne _ _ hqx, upd_self]
  have eo : ∀ y, N y → y ≠ q → nd' y = nd y := fun y h1 h2 => by rw [← hnd, upd_ne _ _ (nx h1), upd_ne _ _ h2]
  rw [hnd] at hpl ⊢
  have wx : upd (upd wd q (u ++ A)) x (wd q) x = wd q := upd_self _ _ _
  have wq : upd (upd wd q (u ++ A)) x (wd q) q = u ++ A := by rw [upd_ne _ _ hqx, upd_self]
  have wo : ∀ y, N y → y ≠ q → upd (upd wd q (u ++ A)) x (wd q) y = wd y := fun y h1 h2 => by rw [upd_ne _ _ (nx h1), upd_ne _ _ h2]
  generalize upd (upd wd q (u ++ A)) x (wd q) = wd' at *
  have huq : wd q = u ++ A ++ B := by rw [hu, hpx, List.append_assoc]
  -- q is nobody's child but its parent's; its first byte stands
  have fq : q ≠ root → (nd' q).fb = (nd q).fb := fun hne => by
    rcases hA with hA | hA
    · unfold Nd.fb
      rw [eq, hpx]
      cases A with
      | nil => exact absurd rfl hA
      | cons a r => rfl
    · exact absurd hA hne
  have fo : ∀ y, N y → y ≠ root → (nd' y).fb = (nd y).fb := fun y hy hne => by
    by_cases h : y = q
    · subst h; exact fq hne
    · rw [eo y hy h]
  have kidq : ∀ p, N p → q ∉ (nd q).cl.kids := fun p _ h => by have := I.kid_longer hq h; omega
  refine ⟨.inl I.root_mem, ?_, ?_, ?_, ?_, ?_, ?_, ?_, ?_, ?_, ?_, ?_⟩
  · by_cases h : root = q
    · subst h
      rw [wq, eq]
      have h1 := I.root_wd
      rw [hu] at h1
      have h2 : u = [] := by simpa using congrArg List.length h1
      rw [h2]; rfl
    · rw [wo root I.root_mem h, eo root I.root_mem h]; exact I.root_wd
  · rintro p (hp | rfl) hne
    · by_cases h : p = q
      · subst h; rw [eq]; rfl
      · rw [eo p hp h]; exact I.np p hp hne
    · rw [ex]; exact hnp
  · rintro p (hp | rfl) c hc
    · by_cases hpq : p = q
      · subst hpq
        rw [eq] at hc
        have hc' : c ∈ cl'.kids := hc
        rw [hkids] at hc'
        simp at hc'
        subst hc'
        exact ⟨.inr rfl, (nx I.root_mem).symm, by rw [wx, wq, ex]; exact huq, by rw [ex]; exact hB⟩
      · rw [eo p hp hpq] at hc
        obtain ⟨h1, h2, h3, h4⟩ := I.kid p hp c hc
        by_cases hcq : c = q
        · subst hcq
          refine ⟨.inl h1, h2, ?_, ?_⟩
          · rw [wq, wo p hp hpq, eq]
            show u ++ A = wd p ++ A
            rw [hu] at h3
            rw [List.append_cancel_right h3]
          · rw [eq]
            rcases hA with hA | hA
            · exact hA
            · exact absurd hA h2
        · exact ⟨.inl h1, h2, by rw [wo c h1 hcq, wo p hp hpq, eo c h1 hcq]; exact h3, by rw [eo c h1 hcq]; exact h4⟩
    · rw [ex] at hc
      have hc' : c ∈ (nd q).cl.kids := hc
      obtain ⟨h1, h2, h3, h4⟩ := I.kid q hq c hc'
      have hcq : c ≠ q := fun h => kidq q hq (h ▸ hc')
      exact ⟨.inl h1, h2, by rw [wo c h1 hcq, wx, eo c h1 hcq]; exact h3, by rw [eo c h1 hcq]; exact h4⟩
  · rintro p (hp | rfl) c d hc hd h
    · by_cases hpq : p = q
      · subst hpq
        rw [eq] at hc hd
        have hc' : c ∈ cl'.kids := hc
        have hd' : d ∈ cl'.kids := hd
        rw [hkids] at hc' hd'
        simp at hc' hd'
        rw [hc', hd']
      · rw [eo p hp hpq] at hc hd
        obtain ⟨h1, h2, _, _⟩ := I.kid p hp c hc
        obtain ⟨g1, g2, _, _⟩ := I.kid p hp d hd
        rw [fo c h1 h2, fo d g1 g2] at h
        exact I.ne p hp c d hc hd h
    · rw [ex] at hc hd
      have hc' : c ∈ (nd q).cl.kids := hc
      have hd' : d ∈ (nd q).cl.kids := hd
      obtain ⟨h1, h2, _, _⟩ := I.kid q hq c hc'
      obtain ⟨g1, g2, _, _⟩ := I.kid q hq d hd'
      rw [fo c h1 h2, fo d g1 g2] at h
      exact I.ne q hq c d hc' hd' h
  · rintro p (hp | rfl)
    · by_cases hpq : p = q
      · subst hpq
        rw [eq]
        show cl'.kids.Nodup
        rw [hkids]
        simp
      · rw [eo p hp hpq]; exact I.nodup p hp
    · rw [ex]; exact I.nodup q hq
  · rintro p (hp | rfl)
    · by_cases hpq : p = q
      · subst hpq; rw [eq]; exact hpl
      · rw [eo p hp hpq]
        exact placed_perm (I.placed p hp) (fun c hc => fo c (I.kid p hp c hc).1 (I.kid p hp c hc).2.1)
    · rw [ex]
      exact placed_perm (I.placed q hq) (fun c hc => fo c (I.kid q hq c hc).1 (I.kid q hq c hc).2.1)
  · rintro c (hc | rfl) hne
    · obtain ⟨p, hp, h⟩ := I.par c hc hne
      by_cases hpq : p = q
      · subst hpq; exact ⟨x, .inr rfl, by rw [ex]; exact h⟩
      · exact ⟨p, .inl hp, by rw [eo p hp hpq]; exact h⟩
    · exact ⟨q, .inl hq, by rw [eq]; show c ∈ cl'.kids; rw [hkids]; simp⟩
  · have hxl : (nd' x).cl.l = (nd q).cl.l := by rw [ex]; rfl
    have hql : (nd' q).cl.l = cl'.l := by rw [eq]; rfl
    rintro y z (hy | rfl) (hz | rfl) h
    · by_cases h1 : y = q <;> by_cases h2 : z = q
      · rw [h1, h2]
      · subst h1; rw [hql, eo z hz h2] at h; exact absurd h.symm (hl z hz)
      · subst h2; rw [hql, eo y hy h1] at h; exact absurd h (hl y hy)
      · rw [eo y hy h1, eo z hz h2] at h; exact I.sepl y z hy hz h
    · rw [hxl] at h
      by_cases h1 : y = q
      · subst h1; rw [hql] at h; exact absurd h.symm (hl y hy)
      · rw [eo y hy h1] at h; exact absurd (I.sepl y q hy hq h) h1
    · rw [hxl] at h
      by_cases h1 : z = q
      · subst h1; rw [hql] at h; exact absurd h (hl z hz)
      · rw [eo z hz h1] at h; exact absurd (I.sepl z q hz hq h.symm) h1
    · rfl
  · have hxl : (nd' x).cl.a = (nd q).cl.a := by rw [ex]; rfl
    have hql : (nd' q).cl.a = cl'.a := by rw [eq]; rfl
    rintro y z (hy | rfl) (hz | rfl) h
    · by_cases h1 : y = q <;> by_cases h2 : z = q
      · rw [h1, h2]
      · subst h1; rw [hql, eo z hz h2] at h; exact absurd h.symm (ha z hz)
      · subst h2; rw [hql, eo y hy h1] at h; exact absurd h (ha y hy)
      · rw [eo y hy h1, eo z hz h2] at h; exact I.sepa y z hy hz h
    · rw [hxl] at h
      by_cases h1 : y = q
      · subst h1; rw [hql] at h; exact absurd h.symm (ha y hy)
      · rw [eo y hy h1] at h; exact absurd (I.sepa y q hy hq h) h1
    · rw [hxl] at h
      by_cases h1 : z = q
      · subst h1; rw [hql] at h; exact absurd h (ha z hz)
      · rw [eo z hz h1] at h; exact absurd (I.sepa z q hz hq h.symm) h1
    · rfl
  · rintro p (hp | rfl)
    · by_cases hpq : p = q
      · subst hpq
        rw [wq]
        have := I.len p hp
        rw [huq] at this
        simp at this ⊢
        omega
      · rw [wo p hp hpq]; exact I.len p hp
    · rw [wx]; exact I.len q hq
  · have hch := I.chain q hq hnp
    rw [hpx, huq] at hch
    simp only [List.length_append] at hch
    rintro p (hp | rfl) hn
    · by_cases hpq : p = q
      · subst hpq
        rw [wq, eq]
        refine ⟨(List.prefix_append _ _).trans hch.1, ?_⟩
        show (nd p).so + sh (nd p).sb + A.length = (u ++ A).length
        rw [List.length_append]
        omega
      · rw [wo p hp hpq, eo p hp hpq]
        rw [eo p hp hpq] at hn
        exact I.chain p hp hn
    · rw [wx, ex]
      refine ⟨by rw [huq]; exact hch.1, ?_⟩
      show (nd q).so + A.length + sh (nd q).sb + B.length = (wd q).length
      rw [huq]
      simp only [List.length_append]
      omega

/-- Where the bytes of a joined node lie: behind the upper one's, or in a new block. -/
def Laid (N : Nat → Prop) (nd : Nat → Nd) (p : Nat) (d' : Nd) : Prop :=
  (d'.sb = (nd p).sb ∧ d'.so = (nd p).so) ∨ (d'.so = 0 ∧ ∀ r, N r → (nd r).np = false → (nd r).sb ≠ d'.sb)

open Classical in
/-- The words and places of the blocks of bytes, after a join of p with its one child c. -/
theorem Inv.chain_join (I : Inv root N nd wd S sh) {p c : Nat} {d' : Nd} (hp : N p) (hnp : (nd p).np = false) (hc : (nd p).cl.kids = [c]) (hpx : d'.px = (nd p).px ++ (nd c).px) (hL : Laid N nd p d') :
    ∃ (S' : Nat → List UInt8) (sh' : Nat → Nat), (wd c <+: S' d'.sb ∧ d'.so + sh' d'.sb + d'.px.length = (wd c).length) ∧
      ∀ r, N r → r ≠ p → (nd r).np = false → wd r <+: S' (nd r).sb ∧ (nd r).so + sh' (nd r).sb + (nd r).px.length = (wd r).length := by
  obtain ⟨hcN, _, hw, _⟩ := I.kid p hp c (by rw [hc]; simp)
  have hlen : (wd c).length = (wd p).length + (nd c).px.length := by rw [hw, List.length_append]
  obtain ⟨ch1, ch2⟩ := I.chain p hp hnp
  rcases hL with ⟨hsb, hso⟩ | ⟨hso, hnew⟩
  · refine ⟨if wd c <+: S (nd p).sb then S else upd S (nd p).sb (wd c), sh, ⟨?_, ?_⟩, fun r hr hrp hrn => ?_⟩
    · rw [hsb]
      split
      · assumption
      · rw [upd_self]; exact List.prefix_refl _
    · rw [hsb, hso, hpx, List.length_append]; omega
    · obtain ⟨r1, r2⟩ := I.chain r hr hrn
      refine ⟨?_, r2⟩
      split
      · exact r1
      · rename_i hno
        by_cases hb : (nd r).sb = (nd p).sb
        · rw [hb, upd_self]
          rw [hb] at r1
          have hpc : wd p <+: wd c := I.kid_pre hp (by rw [hc]; simp)
          rcases pre_total r1 ch1 with h | h
          · exact h.trans hpc
          · exfalso
            rcases I.desc hp hr h with h' | ⟨c', hc', h'⟩
            · exact hrp h'
            · rw [hc] at hc'
              simp at hc'
              subst hc'
              exact hno (h'.trans r1)
        · rw [upd_ne _ _ hb]; exact r1
  · refine ⟨upd S d'.sb (wd c), upd sh d'.sb ((wd p).length - (nd p).px.length), ⟨?_, ?_⟩, fun r hr hrp hrn => ?_⟩
    · rw [upd_self]; exact List.prefix_refl _
    · rw [upd_self, hso, hpx, List.length_append]; omega
    · have hb := hnew r hr hrn
      rw [upd_ne _ _ hb, upd_ne _ _ hb]
      exact I.chain r hr hrn

/-- A node p without an item is joined with its one child c: c takes its place beneath P. -/
theorem Inv.join (I : Inv root N nd wd S sh) {P p c : Nat} {d' : Nd} {cl' : CL} (hP : N P) (hp : p ∈ (nd P).cl.kids) (hc : (nd p).cl.kids = [c]) (hnp : d'.np = false) (hpx : d'.px = (nd p).px ++ (nd c).px) (hcl : d'.cl = (nd c).cl) (hL : Laid N nd p d')
    (km : ∀ x, x ∈ cl'.kids ↔ (x ∈ (nd P).cl.kids ∧ x ≠ p) ∨ x = c) (hnd : cl'.kids.Nodup) (hpl : cl'.placed (fun x => (upd (upd nd P { nd P with cl := cl' }) c d' x).fb))
    (hl : ∀ r, N r → r ≠ P → r ≠ p → (nd r).cl.l ≠ cl'.l) (ha : ∀ r, N r → r ≠ P → r ≠ p → (nd r).cl.a ≠ cl'.a) :
    ∃ (S' : Nat → List UInt8) (sh' : Nat → Nat), Inv root (fun x => N x ∧ x ≠ p) (upd (upd nd P { nd P with cl := cl' }) c d') wd S' sh' := by
  obtain ⟨hpN, hpr, hpw, hpx0⟩ := I.kid P hP p hp
  obtain ⟨hcN, hcr, hcw, hcx0⟩ := I.kid p hpN c (by rw [hc]; simp)
  have l1 := I.kid_longer hP hp
  have l2 := I.kid_longer hpN (c := c) (by rw [hc]; simp)
  have hPc : P ≠ c := fun h => by rw [h] at l1; omega
  have hPp : P ≠ p := fun h => by rw [h] at l1; omega
  have hpc : p ≠ c := fun h => by rw [h] at l2; omega
  obtain ⟨S', sh', ⟨c1, c2⟩, c3⟩ := I.chain_join hpN (I.np p hpN hpr) hc hpx hL
  obtain ⟨nd', hnd'⟩ : ∃ n, upd (upd nd P { nd P with cl := cl' }) c d' = n := ⟨_, rfl⟩
  have ec : nd' c = d' := by rw [← hnd', upd_self]
  have eP : nd' P = { nd P with cl := cl' } := by rw [← hnd', upd_ne _ _ hPc, upd_self]
  have eo : ∀ x, x ≠ P → x ≠ c → nd' x = nd x := fun x h1 h2 => by rw [← hnd', upd_ne _ _ h2, upd_ne _ _ h1]
  rw [hnd'] at hpl
  refine ⟨S', sh', ?_⟩
  rw [hnd']
  have ek : ∀ x, x ≠ P → (nd' x).cl = (nd x).cl := fun x h => by
    by_cases h2 : x = c
    · subst h2; rw [ec]; exact hcl
    · rw [eo x h h2]
  have en : ∀ x, x ≠ c → (nd' x).np = (nd x).np ∧ (nd' x).sb = (nd x).sb ∧ (nd' x).so = (nd x).so ∧ (nd' x).px = (nd x).px := fun x h => by
    by_cases h2 : x = P
    · subst h2; rw [eP]; exact ⟨rfl, rfl, rfl, rfl⟩
    · rw [eo x h2 h]; exact ⟨rfl, rfl, rfl, rfl⟩
  have ef : ∀ x, x ≠ c → (nd' x).fb = (nd x).fb := fun x h => by unfold Nd.fb; rw [(en x h).2.2.2]
  have efc : (nd' c).fb = (nd p).fb := by
    unfold Nd.fb
    rw [ec, hpx]
    cases hx : (nd p).px with
    | nil => exact absurd hx hpx0
    | cons a r => rfl
  -- c is the child of p alone
  have only : ∀ x, N x → c ∈ (nd x).cl.kids → x = p := fun x hx h => I.par_unique hx hpN h (by rw [hc]; simp)
  have onlyp : ∀ x, N x → p ∈ (nd x).cl.kids → x = P := fun x hx h => I.par_unique hx hP h hp
  refine ⟨⟨I.root_mem, fun h => hpr h.symm⟩, ?_, ?_, ?_, ?_, ?_, ?_, ?_, ?_, ?_, ?_, ?_⟩
  · rw [(en root (fun h => hcr h.symm)).2.2.2]; exact I.root_wd
  · rintro x ⟨hx, hxp⟩ hne
    by_cases h : x = c
    · subst h; rw [ec]; exact hnp
    · rw [(en x h).1]; exact I.np x hx hne
  · rintro x ⟨hx, hxp⟩ y hy
    by_cases h : x = P
    · subst h
      rw [eP] at hy
      rcases (km y).1 hy with ⟨hy1, hyp⟩ | rfl
      · obtain ⟨h1, h2, h3, h4⟩ := I.kid x hx y hy1
        have hyc : y ≠ c := fun e => by
          subst e; exact hPp (only x hx hy1)
        exact ⟨⟨h1, hyp⟩, h2, by rw [(en y hyc).2.2.2]; exact h3, by rw [(en y hyc).2.2.2]; exact h4⟩
      · refine ⟨⟨hcN, fun h => hpc h.symm⟩, hcr, ?_, ?_⟩
        · rw [ec, hpx, hcw, hpw, List.append_assoc]
        · rw [ec, hpx]; simp [hpx0]
    · rw [ek x h] at hy
      obtain ⟨h1, h2, h3, h4⟩ := I.kid x hx y hy
      have hyc : y ≠ c := fun e => by subst e; exact hxp (only x hx hy)
      have hyp : y ≠ p := fun e => by subst e; exact h (onlyp x hx hy)
      exact ⟨⟨h1, hyp⟩, h2, by rw [(en y hyc).2.2.2]; exact h3, by rw [(en y hyc).2.2.2]; exact h4⟩
  · rintro x ⟨hx, hxp⟩ y z hy hz h
    by_cases hxP : x = P
    · subst hxP
      rw [eP] at hy hz
      rcases (km y).1 hy with ⟨hy1, hyp⟩ | rfl <;> rcases (km z).1 hz with ⟨hz1, hzp⟩ | rfl
      · have hyc : y ≠ c := fun e => by subst e; exact hPp (only x hx hy1)
        have hzc : z ≠ c := fun e => by subst e; exact hPp (only x hx hz1)
        rw [ef y hyc, ef z hzc] at h
        exact I.ne x hx y z hy1 hz1 h
      · have hyc : y ≠ z := fun e => by subst e; exact hPp (only x hx hy1)
        rw [ef y hyc, efc] at h
        exact absurd (I.ne x hx y p hy1 hp h) hyp
      · have hzc : z ≠ y := fun e => by subst e; exact hPp (only x hx hz1)
        rw [ef z hzc, efc] at h
        exact absurd (I.ne x hx z p hz1 hp h.symm) hzp
      · rfl
    · rw [ek x hxP] at hy hz
      have hyc : y ≠ c := fun e => by subst e; exact hxp (only x hx hy)
      have hzc : z ≠ c := fun e => by subst e; exact hxp (only x hx hz)
      rw [ef y hyc, ef z hzc] at h
      exact I.ne x hx y z hy hz h
  · rintro x ⟨hx, hxp⟩
    by_cases hxP : x = P
    · subst hxP; rw [eP]; exact hnd
    · rw [ek x hxP]; exact I.nodup x hx
  · rintro x ⟨hx, hxp⟩
    by_cases hxP : x = P
    · subst hxP; rw [eP]; exact hpl
    · rw [ek x hxP]
      exact placed_perm (I.placed x hx) (fun y hy => ef y (fun e => by subst e; exact hxp (only x hx hy)))
  · rintro x ⟨hx, hxp⟩ hne
    obtain ⟨y, hy, h⟩ := I.par x hx hne
    by_cases hyp : y = p
    · subst hyp
      rw [hc] at h
      simp at h
      subst h
      exact ⟨P, ⟨hP, hPp⟩, by rw [eP]; exact (km x).2 (.inr rfl)⟩
    · refine ⟨y, ⟨hy, hyp⟩, ?_⟩
      by_cases hyP : y = P
      · subst hyP; rw [eP]; exact (km x).2 (.inl ⟨h, hxp⟩)
      · rw [ek y hyP]; exact h
  · rintro x y ⟨hx, hxp⟩ ⟨hy, hyp⟩ h
    by_cases h1 : x = P <;> by_cases h2 : y = P
    · rw [h1, h2]
    · subst h1; rw [eP, ek y h2] at h; exact absurd h.symm (hl y hy h2 hyp)
    · subst h2; rw [eP, ek x h1] at h; exact absurd h (hl x hx h1 hxp)
    · rw [ek x h1, ek y h2] at h; exact I.sepl x y hx hy h
  · rintro x y ⟨hx, hxp⟩ ⟨hy, hyp⟩ h
    by_cases h1 : x = P <;> by_cases h2 : y = P
    · rw [h1, h2]
    · subst h1; rw [eP, ek y h2] at h; exact absurd h.symm (ha y hy h2 hyp)
    · subst h2; rw [eP, ek x h1] at h; exact absurd h (ha x hx h1 hxp)
    · rw [ek x h1, ek y h2] at h; exact I.sepa x y hx hy h
  · rintro x ⟨hx, _⟩; exact I.len x hx
  · rintro x ⟨hx, hxp⟩ hn
    by_cases h : x = c
    · subst h; rw [ec]; exact ⟨c1, c2⟩
    · rw [(en x h).1] at hn
      rw [(en x h).2.1, (en x h).2.2.1, (en x h).2.2.2]
      exact c3 x hx hxp hn

end

end Go.Proofs.Ytmdbnjepajifpaa

/- A scope with three labels to which the run jumps ahead only. -/
namespace Go.Proofs.Ytmdbnjepajifpaa
open Go.RowKit

def Exit.j1 (J0 : Act → World → Prop) (Q : Exit → Act → World → Prop) : Exit → Act → World → Prop
  | .goto l, a, w => l = 0 ∧ J0 a w
  | e, a, w => Q e a w
def Exit.j3 (J0 J1 J2 : Act → World → Prop) (Q : Exit → Act → World → Prop) : Exit → Act → World → Prop
  | .goto l, a, w => (l = 0 ∧ J0 a w) ∨ (l = 1 ∧ J1 a w) ∨ (l = 2 ∧ J2 a w)
  | e, a, w => Q e a w
section
variable {J0 J1 J2 : Act → World → Prop} {Q : Exit → Act → World → Prop} {a : Act} {w : World}
@[go_sem] theorem j1_0 : Exit.j1 J0 Q (.goto 0) a w = J0 a w := by simp [Exit.j1]
@[go_sem] theorem j1_n : Exit.j1 J0 Q .normal a w = Q .normal a w := rfl
@[go_sem] theorem j1_e (i : Nat) : Exit.j1 J0 Q (.exit i) a w = Q (.exit i) a w := rfl
@[go_sem] theorem j1_r : Exit.j1 J0 Q .ret a w = Q .ret a w := rfl
@[go_sem] theorem j1_p (c : List PanicEntry) : Exit.j1 J0 Q (.panic c) a w = Q (.panic c) a w := rfl
@[go_sem] theorem j3_0 : Exit.j3 J0 J1 J2 Q (.goto 0) a w = J0 a w := by simp [Exit.j3]
@[go_sem] theorem j3_1 : Exit.j3 J0 J1 J2 Q (.goto 1) a w = J1 a w := by simp [Exit.j3]
@[go_sem] theorem j3_2 : Exit.j3 J0 J1 J2 Q (.goto 2) a w = J2 a w := by simp [Exit.j3]
@[go_sem] theorem j3_n : Exit.j3 J0 J1 J2 Q .normal a w = Q .normal a w := rfl
@[go_sem] theorem j3_e (i : Nat) : Exit.j3 J0 J1 J2 Q (.exit i) a w = Q (.exit i) a w := rfl
@[go_sem] theorem j3_r : Exit.j3 J0 J1 J2 Q .ret a w = Q .ret a w := rfl
@[go_sem] theorem j3_p (c : List PanicEntry) : Exit.j3 J0 J1 J2 Q (.panic c) a w = Q (.panic c) a w := rfl
end

theorem j3_i0 {J0 J1 J2 : Act → World → Prop} {Q : Exit → Act → World → Prop} {a : Act} {w : World} (h : J0 a w) : Exit.j3 J0 J1 J2 Q (.goto 0) a w := .inl ⟨rfl, h⟩
theorem j3_i1 {J0 J1 J2 : Act → World → Prop} {Q : Exit → Act → World → Prop} {a : Act} {w : World} (h : J1 a w) : Exit.j3 J0 J1 J2 Q (.goto 1) a w := .inr (.inl ⟨rfl, h⟩)
theorem j3_i2 {J0 J1 J2 : Act → World → Prop} {Q : Exit → Act → World → Prop} {a : Act} {w : World} (h : J2 a w) : Exit.j3 J0 J1 J2 Q (.goto 2) a w := .inr (.inr ⟨rfl, h⟩)
theorem j1_i0 {J0 : Act → World → Prop} {Q : Exit → Act → World → Prop} {a : Act} {w : World} (h : J0 a w) : Exit.j1 J0 Q (.goto 0) a w := ⟨rfl, h⟩

theorem wp_scope3 {P : Program} {c r0 r1 r2 : Code} {Q : Exit → Act → World → Prop} {a : Act} {w : World} (h0 : findLabel c 0 = some r0) (h1 : findLabel c 1 = some r1) (h2 : findLabel c 2 = some r2)
    (h : ∀ J0 J1 J2 : Act → World → Prop, (∀ a w, r0.wp P (Exit.noGoto Q) a w → J0 a w) → (∀ a w, r1.wp P (Exit.j1 J0 Q) a w → J1 a w) → (∀ a w, r2.wp P (Exit.j1 J0 Q) a w → J2 a w) → c.wp P (Exit.j3 J0 J1 J2 Q) a w) :
    (Code.scope c).wp P Q a w := by
  have H := h (fun a w => r0.wp P (Exit.noGoto Q) a w) (fun a w => r1.wp P (Exit.j1 (fun a w => r0.wp P (Exit.noGoto Q) a w) Q) a w) (fun a w => r2.wp P (Exit.j1 (fun a w => r0.wp P (Exit.noGoto Q) a w) Q) a w)
    (fun _ _ h => h) (fun _ _ h => h) (fun _ _ h => h)
  intro b k cs
  have hg : ∀ l r, findLabel c l = some r → gotoIn l (.inScope c :: k) = some (.code r :: .inScope c :: k) := fun l r hf => by simp [gotoIn, hf]
  have k0 : ∀ a w, r0.wp P (Exit.noGoto Q) a w → ∃ e a' w', Q e a' w' ∧ Arrives P (lone (b.at a (.code r0 :: .inScope c :: k)) cs w) b k cs e a' w' := by
    intro a w hr
    obtain ⟨e, a₁, w₁, hq, harr⟩ := hr b (.inScope c :: k) cs
    cases e with
    | normal => exact ⟨.normal, a₁, w₁, hq, Steps.trans harr (.one step_inScope)⟩
    | exit id => exact ⟨.exit id, a₁, w₁, hq, fun k' hk => harr k' (by simp [exitTo, hk])⟩
    | goto l' => exact hq.elim
    | ret => exact ⟨_, a₁, w₁, hq, harr⟩
    | panic ch => exact ⟨_, a₁, w₁, hq, harr⟩
    | outgrown => exact ⟨_, a₁, w₁, hq, harr⟩
  have k1 : ∀ r a w, r.wp P (Exit.j1 (fun a w => r0.wp P (Exit.noGoto Q) a w) Q) a w → ∃ e a' w', Q e a' w' ∧ Arrives P (lone (b.at a (.code r :: .inScope c :: k)) cs w) b k cs e a' w' := by
    intro r a w hr
    obtain ⟨e, a₁, w₁, hq, harr⟩ := hr b (.inScope c :: k) cs
    cases e with
    | normal => exact ⟨.normal, a₁, w₁, hq, Steps.trans harr (.one step_inScope)⟩
    | exit id => exact ⟨.exit id, a₁, w₁, hq, fun k' hk => harr k' (by simp [exitTo, hk])⟩
    | goto l' =>
      obtain ⟨rfl, hq⟩ := hq
      obtain ⟨e₂, a₂, w₂, hq₂, harr₂⟩ := k0 _ _ hq
      exact ⟨e₂, a₂, w₂, hq₂, .of_steps (harr _ (hg 0 r0 h0)) harr₂⟩
    | ret => exact ⟨_, a₁, w₁, hq, harr⟩
    | panic ch => exact ⟨_, a₁, w₁, hq, harr⟩
    | outgrown => exact ⟨_, a₁, w₁, hq, harr⟩
  obtain ⟨e, a₁, w₁, hq, harr⟩ := H b (.inScope c :: k) cs
  cases e with
  | normal => exact ⟨.normal, a₁, w₁, hq, .head step_scope (Steps.trans harr (.one step_inScope))⟩
  | exit id => exact ⟨.exit id, a₁, w₁, hq, fun k' hk => .head step_scope (harr k' (by simp [exitTo, hk]))⟩
  | goto l' =>
    rcases hq with ⟨rfl, hq⟩ | ⟨rfl, hq⟩ | ⟨rfl, hq⟩
    · obtain ⟨e₂, a₂, w₂, hq₂, harr₂⟩ := k0 _ _ hq
      exact ⟨e₂, a₂, w₂, hq₂, .of_steps (.head step_scope (harr _ (hg 0 r0 h0))) harr₂⟩
    · obtain ⟨e₂, a₂, w₂, hq₂, harr₂⟩ := k1 _ _ _ hq
      exact ⟨e₂, a₂, w₂, hq₂, .of_steps (.head step_scope (harr _ (hg 1 r1 h1))) harr₂⟩
    · obtain ⟨e₂, a₂, w₂, hq₂, harr₂⟩ := k1 _ _ _ hq
      exact ⟨e₂, a₂, w₂, hq₂, .of_steps (.head step_scope (harr _ (hg 2 r2 h2))) harr₂⟩
  | ret => exact ⟨_, a₁, w₁, hq, .of_steps (.one step_scope) harr⟩
  | panic ch => exact ⟨_, a₁, w₁, hq, .of_steps (.one step_scope) harr⟩
  | outgrown => exact ⟨_, a₁, w₁, hq, .of_steps (.one step_scope) harr⟩

end Go.Proofs.Ytmdbnjepajifpaa

/- A trie in memory, as the map that it stands for. -/
namespace Go.Proofs.Ytmdbnjepajifpaa
open Go.RowKit

structure Cont (N : Nat → Prop) (nd : Nat → Nd) (wd : Nat → List UInt8) (M : List UInt8 → Option Int) : Prop where
  at_ : ∀ p, N p → M (wd p) = (nd p).it
  of : ∀ k, M k ≠ none → ∃ p, N p ∧ wd p = k

/-- A trie at block t: its numbers and first part of a key (mp, rp), its map M; all its blocks are in O. -/
structure TA (w : World) (t : Nat) (mp : Int) (rp : List UInt8) (M : List UInt8 → Option Int) (O : Nat → Prop)
    (N : Nat → Prop) (nd : Nat → Nd) (wd : Nat → List UInt8) (S : Nat → List UInt8) (sh : Nat → Nat) : Prop where
  T : TR w t N nd wd S sh
  C : Cont N nd wd M
  own : ∀ p, N p → O p ∧ O (nd p).cl.l ∧ O (nd p).cl.a ∧ O (nd p).sb
  lt : ∀ k, O k → k < w.heap.size
  mp : (nd t).mp = mp
  rp : (nd t).px = rp

/-- Each node has an item or at least m children. -/
def Lf (m : Nat) (N : Nat → Prop) (nd : Nat → Nd) : Prop := ∀ p, N p → (nd p).it ≠ none ∨ m ≤ (nd p).cl.kids.length
/-- The same, but for q. -/
def LfX (m : Nat) (N : Nat → Prop) (nd : Nat → Nd) (q : Nat) : Prop := ∀ p, N p → p ≠ q → (nd p).it ≠ none ∨ m ≤ (nd p).cl.kids.length
theorem Lf.x {m : Nat} {N : Nat → Prop} {nd : Nat → Nd} (h : Lf m N nd) (q : Nat) : LfX m N nd q := fun p hp _ => h p hp
theorem Lf.mono {m n : Nat} {N : Nat → Prop} {nd : Nat → Nd} (h : Lf m N nd) (hn : n ≤ m) : Lf n N nd := fun p hp => (h p hp).imp id (fun h => by omega)

def TrieAt (w : World) (t : Nat) (lf : Nat) (mp : Int) (rp : List UInt8) (M : List UInt8 → Option Int) (O : Nat → Prop) : Prop :=
  ∃ N nd wd S sh, TA w t mp rp M O N nd wd S sh ∧ Lf lf N nd

theorem TA.dr {w : World} {t : Nat} {mp : Int} {rp : List UInt8} {M : List UInt8 → Option Int} {O : Nat → Prop} {N : Nat → Prop} {nd : Nat → Nd} {wd : Nat → List UInt8} {S : Nat → List UInt8} {sh : Nat → Nat}
    (A : TA w t mp rp M O N nd wd S sh) (n : Nat) : TA (w.drewN n) t mp rp M O N nd wd S sh := ⟨⟨A.T.I, fun p hp => (A.T.H p hp).dr n, A.T.rn⟩, A.C, A.own, A.lt, A.mp, A.rp⟩

/-- A block of bytes that holds the key. -/
def KeyAt (w : World) (kb kc : Nat) (K : List UInt8) : Prop :=
  KS w kb 0 K ∧ K.length ≤ kc ∧ ∃ (C : Array Value) (fr : Nat × Nat), w.heap[kb]? = some (.cells C 5 fr) ∧ kc ≤ C.size ∧ (∀ i, i < C.size → w.frozen? ⟨kb, i, none⟩ = false)

/-- The map with a key set. -/
def setM (M : List UInt8 → Option Int) (K : List UInt8) (v : Option Int) : List UInt8 → Option Int := fun k => if k = K then v else M k

/-- What put leaves. -/
def PutP (w : World) (t : Nat) (lf : Nat) (M : List UInt8 → Option Int) (O : Nat → Prop) (K : List UInt8) (i : Int) (rep : Bool) (kb : Nat) (e : Ending) (w' : World) : Prop :=
  e = .returned (.bool (rep || (M K).isNone)) ∧ ∃ O' rp', TrieAt w' t lf 10 rp' (if rep || (M K).isNone then setM M K (some i) else M) O' ∧
    (∀ k, O' k → O k ∨ k = kb ∨ (w.heap.size ≤ k ∧ k < w'.heap.size)) ∧ Tch w w' O

end Go.Proofs.Ytmdbnjepajifpaa

/- What a node is in a later world: the blocks on which it hangs. -/
namespace Go.Proofs.Ytmdbnjepajifpaa
open Go.RowKit

def CL.sty : CL → Nat
  | .sp _ _ _ _ => 105
  | .dn _ _ _ _ _ => 147

theorem CLraw.l_ty {w : World} {cl : CL} (h : CLraw w cl) : ∃ C, w.heap[cl.l]? = some (.cells C cl.sty (0, 0)) := by
  cases cl with
  | sp l a cap ks => exact ⟨_, h.1⟩
  | dn l a mn hi arr => exact ⟨_, h.1⟩
theorem CLraw.a_ty {w : World} {cl : CL} (h : CLraw w cl) : ∃ C, w.heap[cl.a]? = some (.cells C 50 (0, 0)) := by
  cases cl with
  | sp l a cap ks => obtain ⟨_, _, _, C, h, _⟩ := h; exact ⟨C, h⟩
  | dn l a mn hi arr => exact ⟨_, h.2.2.2.2⟩
theorem CL.sty_ne (cl : CL) : cl.sty ≠ 82 ∧ cl.sty ≠ 50 ∧ cl.sty ≠ 5 := by cases cl <;> simp [CL.sty]

theorem CLraw.frame {w w' : World} {cl : CL} (h : CLraw w cl) (e1 : w'.heap[cl.l]? = w.heap[cl.l]?) (e2 : w'.heap[cl.a]? = w.heap[cl.a]?) : CLraw w' cl := by
  cases cl with
  | sp l a cap ks =>
    obtain ⟨h1, h2, h3, C, h4, h5⟩ := h
    exact ⟨e1.trans h1, h2, h3, C, e2.trans h4, h5⟩
  | dn l a mn hi arr =>
    obtain ⟨h1, h2, h3, h4, h5⟩ := h
    exact ⟨e1.trans h1, h2, h3, h4, e2.trans h5⟩

theorem frozen_same {w w' : World} {b : Nat} (h : w'.heap[b]? = w.heap[b]?) (i : Nat) : w'.frozen? ⟨b, i, none⟩ = w.frozen? ⟨b, i, none⟩ := by simp [World.frozen?, h]

theorem HN.frame {w w' : World} {p : Nat} {d : Nd} (h : HN w p d) (e0 : w'.heap[p]? = w.heap[p]?) (e1 : w'.heap[d.cl.l]? = w.heap[d.cl.l]?) (e2 : w'.heap[d.cl.a]? = w.heap[d.cl.a]?) (e3 : w'.heap[d.sb]? = w.heap[d.sb]?) : HN w' p d := by
  refine ⟨e0.trans h.obj, h.raw.frame e1 e2, h.le, fun hn => ?_⟩
  obtain ⟨C, fr, h1, h2, h3, h4⟩ := h.blk hn
  exact ⟨C, fr, e3.trans h1, h2, fun i hi => by rw [frozen_same e3]; exact h3 i hi, h4⟩

/-- The same, the block of bytes written, but not where the node's bytes lie. -/
theorem HN.frameB {w w' : World} {p : Nat} {d : Nd} (h : HN w p d) (e0 : w'.heap[p]? = w.heap[p]?) (e1 : w'.heap[d.cl.l]? = w.heap[d.cl.l]?) (e2 : w'.heap[d.cl.a]? = w.heap[d.cl.a]?)
    (e3 : ∀ C fr, w.heap[d.sb]? = some (.cells C 5 fr) → ∃ C', w'.heap[d.sb]? = some (.cells C' 5 fr) ∧ C'.size = C.size ∧ ∀ i, i < d.px.length → C'[d.so + i]? = C[d.so + i]?) : HN w' p d := by
  refine ⟨e0.trans h.obj, h.raw.frame e1 e2, h.le, fun hn => ?_⟩
  obtain ⟨C, fr, h1, h2, h3, h4⟩ := h.blk hn
  obtain ⟨C', g1, g2, g3⟩ := e3 C fr h1
  refine ⟨C', fr, g1, by omega, fun i hi => ?_, fun i hi => by rw [g3 i hi]; exact h4 i hi⟩
  have := h3 i (by omega)
  simp only [World.frozen?, h1] at this
  simp only [World.frozen?, g1]
  exact this

section
variable {root : Nat} {N : Nat → Prop} {nd : Nat → Nd} {wd : Nat → List UInt8} {S : Nat → List UInt8} {sh : Nat → Nat} {w : World}
/-- Two nodes' blocks of different kinds are different blocks. -/
theorem TR.l_ne (T : TR w root N nd wd S sh) {p q : Nat} (hp : N p) (hq : N q) : (nd p).cl.l ≠ q := by
  obtain ⟨C, h⟩ := (T.H p hp).raw.l_ty
  exact ne_of_type h (T.H q hq).obj (CL.sty_ne _).1
theorem TR.a_ne (T : TR w root N nd wd S sh) {p q : Nat} (hp : N p) (hq : N q) : (nd p).cl.a ≠ q := by
  obtain ⟨C, h⟩ := (T.H p hp).raw.a_ty
  exact ne_of_type h (T.H q hq).obj (by decide)
theorem TR.s_ne (T : TR w root N nd wd S sh) {p q : Nat} (hp : N p) (hq : N q) : (nd p).sb ≠ q := by
  obtain ⟨C, fr, h, _⟩ := (T.H p hp).blk (T.np hp)
  exact ne_of_type h (T.H q hq).obj (by decide)
theorem TR.la_ne (T : TR w root N nd wd S sh) {p q : Nat} (hp : N p) (hq : N q) : (nd p).cl.l ≠ (nd q).cl.a := by
  obtain ⟨C, h⟩ := (T.H p hp).raw.l_ty
  obtain ⟨D, k⟩ := (T.H q hq).raw.a_ty
  exact ne_of_type h k (CL.sty_ne _).2.1
theorem TR.sl_ne (T : TR w root N nd wd S sh) {p q : Nat} (hp : N p) (hq : N q) : (nd p).sb ≠ (nd q).cl.l := by
  obtain ⟨C, fr, h, _⟩ := (T.H p hp).blk (T.np hp)
  obtain ⟨D, k⟩ := (T.H q hq).raw.l_ty
  exact ne_of_type h k (CL.sty_ne _).2.2.symm
theorem TR.sa_ne (T : TR w root N nd wd S sh) {p q : Nat} (hp : N p) (hq : N q) : (nd p).sb ≠ (nd q).cl.a := by
  obtain ⟨C, fr, h, _⟩ := (T.H p hp).blk (T.np hp)
  obtain ⟨D, k⟩ := (T.H q hq).raw.a_ty
  exact ne_of_type h k (by decide)
end

/-- The map with an item set at a node. -/
theorem Cont.setItem {N : Nat → Prop} {nd : Nat → Nd} {wd : Nat → List UInt8} {M : List UInt8 → Option Int} (C : Cont N nd wd M) (hinj : ∀ p q, N p → N q → wd p = wd q → q = p) {q : Nat} (hq : N q) (i : Option Int) :
    Cont N (upd nd q { nd q with it := i }) wd (setM M (wd q) i) := by
  refine ⟨fun p hp => ?_, fun k hk => ?_⟩
  · by_cases h : p = q
    · subst h; rw [upd_self]; simp [setM]
    · rw [upd_ne _ _ h]
      have : wd p ≠ wd q := fun e => h (hinj q p hq hp e.symm)
      simp only [setM, if_neg this]
      exact C.at_ p hp
  · by_cases h : k = wd q
    · exact ⟨q, hq, h.symm⟩
    · simp only [setM, if_neg h] at hk
      exact C.of k hk

/-- An item stored into a node's second cell. -/
theorem TA.setItem {w w' : World} {t : Nat} {mp : Int} {rp : List UInt8} {M : List UInt8 → Option Int} {O : Nat → Prop} {N : Nat → Prop} {nd : Nat → Nd} {wd : Nat → List UInt8} {S : Nat → List UInt8} {sh : Nat → Nat}
    (A : TA w t mp rp M O N nd wd S sh) {q : Nat} (hq : N q) (i : Option Int) (hw : w'.heap = (w.setCell ⟨q, 1, none⟩ (itv i)).heap) :
    TA w' t mp rp (setM M (wd q) i) O N (upd nd q { nd q with it := i }) wd S sh := by
  have hk : ∀ k, k ≠ q → w'.heap[k]? = w.heap[k]? := fun k h => by rw [hw]; exact heap_set_ne h _
  have e : ∀ p, (upd nd q { nd q with it := i } p).np = (nd p).np ∧ (upd nd q { nd q with it := i } p).sb = (nd p).sb ∧ (upd nd q { nd q with it := i } p).cl = (nd p).cl ∧ (upd nd q { nd q with it := i } p).mp = (nd p).mp ∧ (upd nd q { nd q with it := i } p).px = (nd p).px := by
    intro p
    by_cases h : p = q
    · subst h; rw [upd_self]; exact ⟨rfl, rfl, rfl, rfl, rfl⟩
    · rw [upd_ne _ _ h]; exact ⟨rfl, rfl, rfl, rfl, rfl⟩
  refine ⟨⟨A.T.I.setItem q i, fun p hp => ?_, by rw [(e t).1]; exact A.T.rn⟩, A.C.setItem (fun p r hp hr h => A.T.I.inj hp hr h) hq i, fun p hp => by rw [(e p).2.1, (e p).2.2.1]; exact A.own p hp, fun k h => ?_, by rw [(e t).2.2.2.1]; exact A.mp, by rw [(e t).2.2.2.2]; exact A.rp⟩
  · have hl := hk _ (A.T.l_ne hp hq)
    have ha := hk _ (A.T.a_ne hp hq)
    have hs := hk _ (A.T.s_ne hp hq)
    by_cases h : p = q
    · subst h
      rw [upd_self]
      have hN := A.T.H p hp
      refine ⟨?_, hN.raw.frame hl ha, hN.le, fun hn => ?_⟩
      · rw [hw]
        rw [heap_set hN.obj]
        rfl
      · obtain ⟨C, fr, h1, h2, h3, h4⟩ := hN.blk hn
        exact ⟨C, fr, hs.trans h1, h2, fun i hi => by rw [frozen_same hs]; exact h3 i hi, h4⟩
    · rw [upd_ne _ _ h]
      exact (A.T.H p hp).frame (hk p h) hl ha hs
  · have := A.lt k h
    rw [hw]; simpa using this

theorem LfX.setItem {m : Nat} {N : Nat → Prop} {nd : Nat → Nd} {q : Nat} (h : LfX m N nd q) (i : Option Int) (hi : i ≠ none ∨ m ≤ (nd q).cl.kids.length) : Lf m N (upd nd q { nd q with it := i }) := by
  intro p hp
  by_cases e : p = q
  · subst e; rw [upd_self]; exact hi
  · rw [upd_ne _ _ e]; exact h p hp e

end Go.Proofs.Ytmdbnjepajifpaa

/- What put leaves where it puts a child beneath a node. -/
namespace Go.Proofs.Ytmdbnjepajifpaa
open Go.RowKit

theorem FB.later {w w' : World} {p : Nat} {b : UInt8} (h : FB w p b) (hk : ∀ k, k < w.heap.size → w'.heap[k]? = w.heap[k]?) : FB w' p b := by
  obtain ⟨sb, so, n, c, h1, h2, h3⟩ := h
  exact ⟨sb, so, n, c, by rw [World.cell?_of_block (w := w) (hk _ (World.block_lt_of_cell? w _ h1))]; exact h1, h2, by rw [World.cell?_of_block (w := w) (hk _ (World.block_lt_of_cell? w _ h3))]; exact h3⟩
theorem CLraw.lt {w : World} {cl : CL} (h : CLraw w cl) : cl.l < w.heap.size ∧ cl.a < w.heap.size := by
  obtain ⟨C, h1⟩ := h.l_ty
  obtain ⟨D, h2⟩ := h.a_ty
  exact ⟨lt_of_heap h1, lt_of_heap h2⟩
theorem CLraw.later {w w' : World} {cl : CL} (h : CLraw w cl) (hk : ∀ k, k < w.heap.size → w'.heap[k]? = w.heap[k]?) : CLraw w' cl := h.frame (hk _ h.lt.1) (hk _ h.lt.2)
theorem KB.later {w w' : World} {fb : Nat → UInt8} {cl : CL} (h : KB w fb cl) (hk : ∀ k, k < w.heap.size → w'.heap[k]? = w.heap[k]?) : KB w' fb cl := ⟨fun c hc => (h.rd c hc).later hk, h.ne, h.nodup, h.placed⟩
theorem KB.congr {w : World} {fb fb' : Nat → UInt8} {cl : CL} (h : KB w fb cl) (he : ∀ c, c ∈ cl.kids → fb' c = fb c) : KB w fb' cl :=
  ⟨fun c hc => by rw [he c hc]; exact h.rd c hc, fun c d hc hd e => h.ne c d hc hd (by rw [← he c hc, ← he d hd]; exact e), h.nodup, placed_perm h.placed he⟩

/-- The node that put makes. -/
def newNd (kb so sc : Nat) (px : List UInt8) (i : Option Int) (l a cap : Nat) (mp mc : Int) : Nd := { np := false, sb := kb, so := so, sc := sc, px := px, it := i, mp := mp, mc := mc, cl := .sp l a cap [] }
def fbY (nd : Nat → Nd) (y : Nat) (b : UInt8) : Nat → UInt8 := fun x => if x = y then b else (nd x).fb

/-- The call of add in put. -/
theorem put_add_call {w w1 w2 : World} {t : Nat} {mp : Int} {rp : List UInt8} {M : List UInt8 → Option Int} {O : Nat → Prop} {N : Nat → Prop} {nd : Nat → Nd} {wd : Nat → List UInt8} {S : Nat → List UInt8} {sh : Nat → Nat} {q y l a kb so sc n : Nat} {b : UInt8}
    (A : TA w t mp rp M O N nd wd S sh) (hq : N q) (hy : w1.heap.size ≤ y) (hyo : w2.heap[y]? = some (freshNd l a 8 10 8).obj) (hT2 : Tch w1 w2 (fun _ => False)) (h1 : w1.heap = w.heap)
    (hn : 0 < n) (hb : w.cell? ⟨kb, so, none⟩ = some (.int .u8 (b.toNat : Int))) (hno : ∀ c, c ∈ (nd q).cl.kids → (nd c).fb ≠ b) :
    Calls Try.prog ((nd q).cl.fn 112 144) #[.pointer (some ⟨(nd q).cl.l, 0, none⟩), .pointer (some ⟨y, 0, none⟩)] (w2.setCell ⟨y, 0, none⟩ (.slice (some ⟨kb, so, none⟩) n sc))
      (AddP (w2.setCell ⟨y, 0, none⟩ (.slice (some ⟨kb, so, none⟩) n sc)) (fbY nd y b) (nd q).cl y) := by
  have hws : w1.heap.size = w.heap.size := by rw [h1]
  have hk : ∀ k, k < w.heap.size → (w2.setCell ⟨y, 0, none⟩ (.slice (some ⟨kb, so, none⟩) n sc)).heap[k]? = w.heap[k]? := fun k hk => by
    rw [heap_set_ne (by omega), hT2.keep k (by omega) (fun h => h), h1]
  have hyk : ∀ c, c ∈ (nd q).cl.kids → c ≠ y := fun c hc h => by
    have := A.lt _ (A.own c (A.T.I.kid q hq c hc).1).1
    omega
  have hfy : fbY nd y b y = b := by simp [fbY]
  have hfc : ∀ c, c ∈ (nd q).cl.kids → fbY nd y b c = (nd c).fb := fun c hc => by simp [fbY, hyk c hc]
  refine add_any _ (fbY nd y b) (nd q).cl y ((A.T.H q hq).raw.later hk) (((A.T.I.kb A.T.H hq).later hk).congr hfc) ?_ (fun c hc => by rw [hfy, hfc c hc]; exact hno c hc)
  rw [hfy]
  refine ⟨kb, so, n, sc, ?_, hn, ?_⟩
  · rw [cell_of_block (heap_set hyo _)]; rfl
  · rw [World.cell?_of_block (w := w) (hk _ (World.block_lt_of_cell? w _ hb))]; exact hb

/-- The two nodes behind the call of add. -/
theorem put_add_cells {w w1 w2 w4 : World} {t : Nat} {mp : Int} {rp : List UInt8} {M : List UInt8 → Option Int} {O : Nat → Prop} {N : Nat → Prop} {nd : Nat → Nd} {wd : Nat → List UInt8} {S : Nat → List UInt8} {sh : Nat → Nat} {r : List UInt8} {q y l a kb so sc : Nat}
    (A : TA w t mp rp M O N nd wd S sh) (hq : N q) (hy : w1.heap.size ≤ y) (hyo : w2.heap[y]? = some (freshNd l a 8 10 8).obj) (hT2 : Tch w1 w2 (fun _ => False))
    (hT4 : Tch (w2.setCell ⟨y, 0, none⟩ (.slice (some ⟨kb, so, none⟩) r.length sc)) w4 (fun k => k = (nd q).cl.l ∨ k = (nd q).cl.a)) (h1 : w1.heap = w.heap) :
    w4.heap[q]? = some (nd q).obj ∧ w4.heap[y]? = some (newNd kb so sc r none l a 8 10 8).obj := by
  have hws : w1.heap.size = w.heap.size := by rw [h1]
  obtain ⟨o1, o2, o3, _⟩ := A.own q hq
  have l1 := A.lt _ o1
  have l2 := A.lt _ o2
  have l3 := A.lt _ o3
  have hylt := lt_of_heap hyo
  have hs2 : w1.heap.size ≤ w2.heap.size := hT2.size
  constructor
  · rw [hT4.keep q (by simp; omega) (fun h => by rcases h with h | h; exact A.T.l_ne hq hq h.symm; exact A.T.a_ne hq hq h.symm), heap_set_ne (by omega), hT2.keep q (by omega) (fun h => h), h1]
    exact (A.T.H q hq).obj
  · rw [hT4.keep y (by simpa using hylt) (fun h => by rcases h with h | h <;> omega), heap_set hyo]
    rfl

theorem put_add {w w1 w2 w4 w6 : World} {t : Nat} {rp : List UInt8} {M : List UInt8 → Option Int} {O : Nat → Prop} {N : Nat → Prop} {nd : Nat → Nd} {wd : Nat → List UInt8} {S : Nat → List UInt8} {sh : Nat → Nat} {K r : List UInt8} {q y l a kb kc so sc : Nat} {cl' : CL}
    (A : TA w t 10 rp M O N nd wd S sh) (hq : N q) {lf : Nat} (hlf : LfX lf N nd q) (hlq : (nd q).it ≠ none ∨ lf ≤ (nd q).cl.kids.length + 1) (hKA : KeyAt w kb kc K) (hkb : ¬ O kb) (hK : K = wd q ++ r) (hr : r ≠ []) (hK10 : K.length ≤ 10) (hso : so + r.length = K.length) (hsc : so + sc ≤ kc) (hrs : r.length ≤ sc) (i : Int)
    (hno : ∀ c, c ∈ (nd q).cl.kids → (nd c).fb ≠ r.headD 0)
    (h1 : w1.heap = w.heap) (_hT1 : Tch w w1 (fun _ => False)) (hy : w1.heap.size ≤ y) (hl : w1.heap.size ≤ l) (ha : w1.heap.size ≤ a) (hyo : w2.heap[y]? = some (freshNd l a 8 10 8).obj) (hraw2 : CLraw w2 (.sp l a 8 [])) (hT2 : Tch w1 w2 (fun _ => False))
    (hraw4 : CLraw w4 cl') (hperm : cl'.kids.Perm (y :: (nd q).cl.kids)) (hpl : cl'.placed (fbY nd y (r.headD 0)))
    (hl' : cl'.l = (nd q).cl.l ∨ w2.heap.size ≤ cl'.l) (ha' : cl'.a = (nd q).cl.a ∨ w2.heap.size ≤ cl'.a)
    (hT4 : Tch (w2.setCell ⟨y, 0, none⟩ (.slice (some ⟨kb, so, none⟩) r.length sc)) w4 (fun k => k = (nd q).cl.l ∨ k = (nd q).cl.a))
    (h6 : w6.heap = ((w4.setCell ⟨q, 4, none⟩ cl'.val).setCell ⟨y, 1, none⟩ (.iface 3 (.int .i64 i))).heap) :
    ∃ O', TA w6 t 10 rp (setM M K (some i)) O' (fun x => N x ∨ x = y) (upd (upd nd q { nd q with cl := cl' }) y (newNd kb so sc r (some i) l a 8 10 8)) (upd wd y (wd q ++ r)) (upd S kb (wd q ++ r)) (upd sh kb 0) ∧
      Lf lf (fun x => N x ∨ x = y) (upd (upd nd q { nd q with cl := cl' }) y (newNd kb so sc r (some i) l a 8 10 8)) ∧
      (∀ k, O' k → O k ∨ k = kb ∨ (w.heap.size ≤ k ∧ k < w6.heap.size)) := by
  obtain ⟨hks, hkc, CK, frK, hk1, hk2, hk3⟩ := hKA
  have hws : w1.heap.size = w.heap.size := by rw [h1]
  have hyN : ¬ N y := fun h => by have := lt_of_heap (A.T.H y h).obj; omega
  have ltN : ∀ p, N p → p < w.heap.size ∧ (nd p).cl.l < w.heap.size ∧ (nd p).cl.a < w.heap.size ∧ (nd p).sb < w.heap.size := fun p hp => by
    obtain ⟨o1, o2, o3, o4⟩ := A.own p hp
    exact ⟨A.lt _ o1, A.lt _ o2, A.lt _ o3, A.lt _ o4⟩
  have hqO := A.own q hq
  have hqlt := ltN q hq
  have hkblt := lt_of_heap hk1
  have hs2 : w1.heap.size ≤ w2.heap.size := hT2.size
  have hylt2 := lt_of_heap hyo
  have hs4 : w2.heap.size ≤ w4.heap.size := by have := hT4.size; simpa using this
  have hs6 : w6.heap.size = w4.heap.size := by rw [h6]; simp
  -- an old block that is none of q's
  have keep4 : ∀ k, k < w.heap.size → k ≠ (nd q).cl.l → k ≠ (nd q).cl.a → w4.heap[k]? = w.heap[k]? := fun k hk n1 n2 => by
    rw [hT4.keep k (by simp; omega) (fun h => by rcases h with h | h; exact n1 h; exact n2 h), heap_set_ne (by omega), hT2.keep k (by omega) (fun h => h), h1]
  have keep6 : ∀ k, k ≠ q → k ≠ y → w6.heap[k]? = w4.heap[k]? := fun k n1 n2 => by rw [h6, heap_set_ne n2, heap_set_ne n1]
  have keep : ∀ k, k < w.heap.size → k ≠ q → k ≠ (nd q).cl.l → k ≠ (nd q).cl.a → w6.heap[k]? = w.heap[k]? := fun k hk n0 n1 n2 => by rw [keep6 k n0 (by omega), keep4 k hk n1 n2]
  have hl4 : l < w4.heap.size := Nat.lt_of_lt_of_le (hraw2.lt.1) hs4
  have ha4 : a < w4.heap.size := Nat.lt_of_lt_of_le (hraw2.lt.2) hs4
  have hsoq : so = (wd q).length := by rw [hK, List.length_append] at hso; omega
  have hcll : cl'.l ≠ l := by
    rcases hl' with h | h
    · omega
    · have := hraw2.lt.1; show cl'.l ≠ (CL.sp l a 8 []).l; omega
  have hcla : cl'.a ≠ a := by
    rcases ha' with h | h
    · omega
    · have := hraw2.lt.2; show cl'.a ≠ (CL.sp l a 8 []).a; omega
  obtain ⟨hcl4, hca4⟩ := hraw4.lt
  have hpl' : cl'.placed (fun c => (upd (upd nd q { nd q with cl := cl' }) y (newNd kb so sc r (some i) l a 8 10 8) c).fb) := by
    refine placed_perm hpl (fun c _ => ?_)
    by_cases hc : c = y
    · subst hc; rw [upd_self]; simp [fbY, newNd, Nd.fb]
    · rw [upd_ne _ _ hc]
      simp only [fbY, if_neg hc]
      by_cases h : c = q
      · subst h; rw [upd_self]; rfl
      · rw [upd_ne _ _ h]
  have I' := A.T.I.addKid (q := q) (y := y) (dy := newNd kb so sc r (some i) l a 8 10 8) (cl' := cl') hq hyN rfl hr rfl trivial hperm hpl' hno
    (by show (wd q).length + r.length ≤ 10; rw [hK, List.length_append] at hK10; exact hK10) hsoq (fun p hp _ h => hkb (by rw [show kb = (nd p).sb from h.symm]; exact (A.own p hp).2.2.2))
    (fun p hp hpq h => by
      rcases hl' with h' | h'
      · rw [h'] at h; exact hpq (A.T.I.sepl p q hp hq h)
      · have := (ltN p hp).2.1; omega)
    (fun p hp => by have := (ltN p hp).2.1; show (nd p).cl.l ≠ l; omega) hcll
    (fun p hp hpq h => by
      rcases ha' with h' | h'
      · rw [h'] at h; exact hpq (A.T.I.sepa p q hp hq h)
      · have := (ltN p hp).2.2.1; omega)
    (fun p hp => by have := (ltN p hp).2.2.1; show (nd p).cl.a ≠ a; omega) hcla
  have hqy : q ≠ y := by omega
  have nyN : ∀ p, N p → p ≠ y := fun p hp e => hyN (e ▸ hp)
  have ety : t ≠ y := fun h => hyN (h ▸ A.T.I.root_mem)
  have eo : ∀ p, N p → p ≠ q → upd (upd nd q { nd q with cl := cl' }) y (newNd kb so sc r (some i) l a 8 10 8) p = nd p := fun p hp h => by
    rw [upd_ne _ _ (nyN p hp), upd_ne _ _ h]
  have eq' : upd (upd nd q { nd q with cl := cl' }) y (newNd kb so sc r (some i) l a 8 10 8) q = { nd q with cl := cl' } := by rw [upd_ne _ _ hqy, upd_self]
  have ey : upd (upd nd q { nd q with cl := cl' }) y (newNd kb so sc r (some i) l a 8 10 8) y = newNd kb so sc r (some i) l a 8 10 8 := upd_self _ _ _
  generalize upd (upd nd q { nd q with cl := cl' }) y (newNd kb so sc r (some i) l a 8 10 8) = nd' at *
  -- blocks of the new list
  obtain ⟨CL1, hcl1⟩ := hraw4.l_ty
  obtain ⟨CA1, hca1⟩ := hraw4.a_ty
  have hq4 : w4.heap[q]? = some (nd q).obj := by
    rw [keep4 q hqlt.1 (A.T.l_ne hq hq).symm (A.T.a_ne hq hq).symm]; exact (A.T.H q hq).obj
  have hy4 : w4.heap[y]? = some ({ newNd kb so sc r none l a 8 10 8 with it := none } : Nd).obj := by
    rw [hT4.keep y (by simpa using hylt2) (fun h => by rcases h with h | h <;> omega), heap_set hyo]
    rfl
  have nl : cl'.l ≠ q ∧ cl'.l ≠ y := ⟨ne_of_type hcl1 hq4 (CL.sty_ne _).1, ne_of_type hcl1 hy4 (CL.sty_ne _).1⟩
  have na : cl'.a ≠ q ∧ cl'.a ≠ y := ⟨ne_of_type hca1 hq4 (by decide), ne_of_type hca1 hy4 (by decide)⟩
  have hl4h : w4.heap[l]? = w2.heap[l]? := by
    have h2 : l < w2.heap.size := hraw2.lt.1
    obtain ⟨C2, k2⟩ : ∃ C, w2.heap[l]? = some (.cells C (CL.sp l a 8 []).sty (0, 0)) := hraw2.l_ty
    rw [hT4.keep l (by simpa using h2) (fun h => by rcases h with h | h <;> omega), heap_set_ne (ne_of_type k2 hyo (CL.sty_ne _).1)]
  have ha4h : w4.heap[a]? = w2.heap[a]? := by
    have h2 : a < w2.heap.size := hraw2.lt.2
    obtain ⟨C2, k2⟩ : ∃ C, w2.heap[a]? = some (.cells C 50 (0, 0)) := hraw2.a_ty
    rw [hT4.keep a (by simpa using h2) (fun h => by rcases h with h | h <;> omega), heap_set_ne (ne_of_type k2 hyo (by decide))]
  have nly : l ≠ y ∧ a ≠ y := by
    obtain ⟨C2, k2⟩ := hraw2.l_ty
    obtain ⟨C3, k3⟩ := hraw2.a_ty
    exact ⟨ne_of_type k2 hyo (CL.sty_ne _).1, ne_of_type k3 hyo (by decide)⟩
  have hkb6 : w6.heap[kb]? = w.heap[kb]? := keep kb hkblt (fun h => hkb (h ▸ hqO.1)) (fun h => hkb (h ▸ hqO.2.1)) (fun h => hkb (h ▸ hqO.2.2.1))
  refine ⟨fun k => O k ∨ k = kb ∨ (w.heap.size ≤ k ∧ k < w6.heap.size), ⟨⟨I', ?_, ?_⟩, ⟨?_, ?_⟩, ?_, ?_, ?_, ?_⟩, ?_, fun k h => h⟩
  · rintro p (hp | rfl)
    · by_cases hpq : p = q
      · subst hpq
        rw [eq']
        have hN := A.T.H p hp
        refine ⟨?_, hraw4.frame (keep6 _ nl.1 nl.2) (keep6 _ na.1 na.2), hN.le, fun hn => ?_⟩
        · rw [h6, heap_set_ne hqy, heap_set hq4]
          rfl
        · obtain ⟨C, fr, b1, b2, b3, b4⟩ := hN.blk hn
          have hs := keep (nd p).sb hqlt.2.2.2 (A.T.s_ne hp hp) (A.T.sl_ne hp hp) (A.T.sa_ne hp hp)
          exact ⟨C, fr, hs.trans b1, b2, fun i hi => by rw [frozen_same hs]; exact b3 i hi, b4⟩
      · rw [eo p hp hpq]
        obtain ⟨g1, g2, g3, g4⟩ := ltN p hp
        exact (A.T.H p hp).frame (keep p g1 hpq (A.T.l_ne hq hp).symm (A.T.a_ne hq hp).symm)
          (keep _ g2 (A.T.l_ne hp hq) (fun h => hpq (A.T.I.sepl p q hp hq h)) (A.T.la_ne hp hq))
          (keep _ g3 (A.T.a_ne hp hq) (A.T.la_ne hq hp).symm (fun h => hpq (A.T.I.sepa p q hp hq h)))
          (keep _ g4 (A.T.s_ne hp hq) (A.T.sl_ne hp hq) (A.T.sa_ne hp hq))
    · rw [ey]
      refine ⟨?_, ?_, hrs, fun _ => ⟨CK, frK, hkb6.trans hk1, by show so + sc ≤ _; omega, fun i hi => by show w6.frozen? ⟨kb, i, none⟩ = false; rw [frozen_same hkb6]; exact hk3 i hi, fun j hj => ?_⟩⟩
      · rw [h6, heap_set (i := 1) (C := #[.slice (some ⟨kb, so, none⟩) r.length sc, .nilIface, .int .i64 10, .int .i64 8, (CL.sp l a 8 []).val]) (by rw [heap_set_ne hqy.symm]; exact hy4)]
        rfl
      · exact hraw2.frame ((keep6 l (by omega) nly.1).trans hl4h) ((keep6 a (by omega) nly.2).trans ha4h)
      · have hj' : j < r.length := hj
        have := hks (so + j) (by omega)
        rw [cell_of_block hk1, Nat.zero_add] at this
        show CK[so + j]? = some (.int .u8 ((r.getD j 0).toNat : Int))
        rw [this, hK, List.getD_eq_getElem?_getD, List.getElem?_append_right (by omega), List.getD_eq_getElem?_getD, hsoq]
        simp
  · by_cases h : t = q
    · subst h; rw [eq']; exact A.T.rn
    · rw [eo t A.T.I.root_mem h]; exact A.T.rn
  · rintro p (hp | rfl)
    · rw [upd_ne _ _ (nyN p hp)]
      have hne : wd p ≠ K := fun e => by
        have := congrArg List.length e
        have hd := A.T.I.desc hq hp (by rw [e, hK]; exact List.prefix_append _ _)
        rcases hd with rfl | ⟨c, hc, hcp⟩
        · rw [hK, List.length_append] at this
          have := List.length_pos_iff.2 hr
          omega
        · have hb := A.T.I.byte_at hq hc hcp
          rw [e, hK, List.getElem?_append_right (Nat.le_refl _), Nat.sub_self] at hb
          apply hno c hc
          cases r with
          | nil => exact absurd rfl hr
          | cons b r' => simp at hb ⊢; exact hb.symm
      simp only [setM, if_neg hne]
      by_cases h : p = q
      · subst h; rw [eq']; exact A.C.at_ p hp
      · rw [eo p hp h]; exact A.C.at_ p hp
    · rw [upd_self, ey, ← hK]; simp [setM, newNd]
  · intro k hk
    by_cases h : k = K
    · exact ⟨y, .inr rfl, by rw [upd_self, h, hK]⟩
    · simp only [setM, if_neg h] at hk
      obtain ⟨p, hp, e⟩ := A.C.of k hk
      exact ⟨p, .inl hp, by rw [upd_ne _ _ (nyN p hp)]; exact e⟩
  · rintro p (hp | rfl)
    · by_cases h : p = q
      · subst h
        rw [eq']
        refine ⟨.inl hqO.1, ?_, ?_, .inl hqO.2.2.2⟩
        · show O cl'.l ∨ cl'.l = kb ∨ (w.heap.size ≤ cl'.l ∧ cl'.l < w6.heap.size)
          rcases hl' with e | e
          · rw [e]; exact .inl hqO.2.1
          · exact .inr (.inr ⟨by omega, by omega⟩)
        · show O cl'.a ∨ cl'.a = kb ∨ (w.heap.size ≤ cl'.a ∧ cl'.a < w6.heap.size)
          rcases ha' with e | e
          · rw [e]; exact .inl hqO.2.2.1
          · exact .inr (.inr ⟨by omega, by omega⟩)
      · rw [eo p hp h]
        obtain ⟨o1, o2, o3, o4⟩ := A.own p hp
        exact ⟨.inl o1, .inl o2, .inl o3, .inl o4⟩
    · rw [ey]
      exact ⟨.inr (.inr ⟨by omega, by omega⟩), .inr (.inr ⟨by show w.heap.size ≤ l; omega, by show l < _; omega⟩), .inr (.inr ⟨by show w.heap.size ≤ a; omega, by show a < _; omega⟩), .inr (.inl rfl)⟩
  · rintro k (hk | rfl | hk)
    · have := A.lt k hk; omega
    · omega
    · exact hk.2
  · by_cases h : t = q
    · subst h; rw [eq']; exact A.mp
    · rw [eo t A.T.I.root_mem h]; exact A.mp
  · by_cases h : t = q
    · subst h; rw [eq']; exact A.rp
    · rw [eo t A.T.I.root_mem h]; exact A.rp
  · rintro p (hp | rfl)
    · by_cases h : p = q
      · subst h
        rw [eq']
        rcases hlq with h | h
        · exact .inl h
        · right
          show lf ≤ cl'.kids.length
          rw [hperm.length_eq]
          simpa using h
      · rw [eo p hp h]; exact hlf p hp h
    · rw [ey]; left; simp [newNd]

/-- What put knows where it puts a child beneath q for what is left of the key. -/
structure PutT (w : World) (t : Nat) (lf : Nat) (rp : List UInt8) (M : List UInt8 → Option Int) (O : Nat → Prop) (N : Nat → Prop) (nd : Nat → Nd) (wd : Nat → List UInt8) (S : Nat → List UInt8) (sh : Nat → Nat) (K r : List UInt8) (q kb kc so sc : Nat) : Prop where
  A : TA w t 10 rp M O N nd wd S sh
  hq : N q
  lx : LfX lf N nd q
  lq : (nd q).it ≠ none ∨ lf ≤ (nd q).cl.kids.length + 1
  KA : KeyAt w kb kc K
  okb : ¬ O kb
  eK : K = wd q ++ r
  ner : r ≠ []
  K10 : K.length ≤ 10
  hso : so + r.length = K.length
  hsc : so + sc ≤ kc
  hrs : r.length ≤ sc
  no : ∀ c, c ∈ (nd q).cl.kids → (nd c).fb ≠ r.headD 0

section
variable {w w1 w2 w4 : World} {t lf : Nat} {rp : List UInt8} {M : List UInt8 → Option Int} {O : Nat → Prop} {N : Nat → Prop} {nd : Nat → Nd} {wd : Nat → List UInt8} {S : Nat → List UInt8} {sh : Nat → Nat} {K r : List UInt8} {q y l a kb kc so sc : Nat} {cl' : CL}

theorem PutT.byte (P : PutT w t lf rp M O N nd wd S sh K r q kb kc so sc) : w.cell? ⟨kb, so, none⟩ = some (.int .u8 ((r.headD 0).toNat : Int)) := by
  have h := P.KA.1
  have e := P.eK
  have l := P.hso
  have hr := P.ner
  rw [e, List.length_append] at l
  have := h (wd q).length (by rw [e, List.length_append]; have := List.length_pos_iff.2 hr; omega)
  rw [show 0 + (wd q).length = so by omega, e] at this
  rw [this]
  cases r with
  | nil => exact absurd rfl hr
  | cons b r => simp [List.getD_eq_getElem?_getD]

theorem PutT.new (P : PutT w t lf rp M O N nd wd S sh K r q kb kc so sc) : M K = none := by
  by_cases h : M K = none
  · exact h
  · exfalso
    obtain ⟨p, hp, e⟩ := P.A.C.of K h
    have hr := P.ner
    have hd := P.A.T.I.desc P.hq hp (by rw [e, P.eK]; exact List.prefix_append _ _)
    rcases hd with rfl | ⟨c, hc, hcp⟩
    · have := congrArg List.length e
      rw [P.eK, List.length_append] at this
      have := List.length_pos_iff.2 hr
      omega
    · have hb := P.A.T.I.byte_at P.hq hc hcp
      rw [e, P.eK, List.getElem?_append_right (Nat.le_refl _), Nat.sub_self] at hb
      apply P.no c hc
      cases r with
      | nil => exact absurd rfl hr
      | cons b r' => simp at hb ⊢; exact hb.symm

theorem PutT.put (P : PutT w t lf rp M O N nd wd S sh K r q kb kc so sc) (i : Int)
    (h1 : w1.heap = w.heap) (hT1 : Tch w w1 (fun _ => False)) (hY : w1.heap.size ≤ y ∧ w1.heap.size ≤ l ∧ w1.heap.size ≤ a ∧ w2.heap[y]? = some (freshNd l a 8 10 8).obj ∧ CLraw w2 (.sp l a 8 []) ∧ Tch w1 w2 (fun _ => False))
    (hP : CLraw w4 cl' ∧ cl'.kids.Perm (y :: (nd q).cl.kids) ∧ cl'.placed (fbY nd y (r.headD 0)) ∧ (cl'.l = (nd q).cl.l ∨ (w2.setCell ⟨y, 0, none⟩ (.slice (some ⟨kb, so, none⟩) r.length sc)).heap.size ≤ cl'.l) ∧ (cl'.a = (nd q).cl.a ∨ (w2.setCell ⟨y, 0, none⟩ (.slice (some ⟨kb, so, none⟩) r.length sc)).heap.size ≤ cl'.a) ∧
      Tch (w2.setCell ⟨y, 0, none⟩ (.slice (some ⟨kb, so, none⟩) r.length sc)) w4 (fun k => k = (nd q).cl.l ∨ k = (nd q).cl.a)) :
    ∃ O', TrieAt ((w4.setCell ⟨q, 4, none⟩ cl'.val).setCell ⟨y, 1, none⟩ (.iface 3 (.int .i64 i))) t lf 10 rp (setM M K (some i)) O' ∧
      (∀ k, O' k → O k ∨ k = kb ∨ (w.heap.size ≤ k ∧ k < ((w4.setCell ⟨q, 4, none⟩ cl'.val).setCell ⟨y, 1, none⟩ (.iface 3 (.int .i64 i))).heap.size)) ∧
      Tch w ((w4.setCell ⟨q, 4, none⟩ cl'.val).setCell ⟨y, 1, none⟩ (.iface 3 (.int .i64 i))) O := by
  obtain ⟨hy, hl, ha, hyo, hraw2, hT2⟩ := hY
  obtain ⟨k1, k2, k3, k4, k5, k8⟩ := hP
  have hws : w1.heap.size = w.heap.size := by rw [h1]
  simp only [World.size_setCell] at k4 k5
  obtain ⟨O', hA, hL, hO⟩ := put_add P.A P.hq P.lx P.lq P.KA P.okb P.eK P.ner P.K10 P.hso P.hsc P.hrs i P.no h1 hT1 hy hl ha hyo hraw2 hT2 k1 k2 k3 k4 k5 k8 rfl
  refine ⟨O', ⟨_, _, _, _, _, hA, hL⟩, hO, ?_⟩
  have o := P.A.own q P.hq
  have T1 : Tch w w2 O := (hT1.trans hT2 (fun _ _ h => h)).mono (fun _ _ h => h.elim)
  have T2 := T1.setCell ⟨y, 0, none⟩ (.slice (some ⟨kb, so, none⟩) r.length sc) (fun h => by have h : y < w.heap.size := h; omega)
  have T3 := T2.trans k8 (fun b hb h => by rcases h with h | h; exact h ▸ o.2.1; exact h ▸ o.2.2.1)
  exact (T3.setCell _ _ (fun _ => o.1)).setCell _ _ (fun h => by have h : y < w.heap.size := h; omega)
end

end Go.Proofs.Ytmdbnjepajifpaa

/- What put leaves where it splits a node. -/
namespace Go.Proofs.Ytmdbnjepajifpaa
open Go.RowKit

theorem cell_alloc_lt {w : World} {q : Nat} {d : Obj} (h : w.heap[q]? = some d) (o : Obj) (nn j : Nat) : ((w.drewN nn).alloc o).cell? ⟨q, j, none⟩ = w.cell? ⟨q, j, none⟩ := by
  unfold World.cell?
  rw [Below.heap_alloc _ _ _ (show q < (w.drewN nn).heap.size from lt_of_heap h)]; rfl

theorem itv_one (i : Option Int) : (itv i).oneCell' = true := by cases i <;> rfl

/-- The world behind the stores of a split. -/
def splitW (w2 : World) (q x l : Nat) (d : Nd) (c : Nat) : World :=
  (((((((w2.setCell ⟨q, 0, none⟩ (.slice none 0 0)).setCell ⟨q, 1, none⟩ .nilIface).setCell ⟨q, 2, none⟩ (.int .i64 10)).setCell ⟨q, 3, none⟩ (.int .i64 8)).setCell ⟨q, 4, none⟩ (.iface 102 (ptr l))).setCell ⟨q, 0, none⟩ (.slice (some ⟨d.sb, d.so, none⟩) c d.sc)).setCell
    ⟨x, 0, none⟩ (.slice (some ⟨d.sb, d.so + c, none⟩) (d.px.length - c) (d.sc - c)))

section
variable {w2 : World} {q x l a : Nat} {d : Nd} {A B : List UInt8}

theorem splitW_q (e2 : w2.heap[q]? = some d.obj) (hqx : q ≠ x) : (splitW w2 q x l d A.length).heap[q]? = some (splitTop d A (.sp l a 8 [])).obj := by
  unfold splitW
  rw [heap_set_ne hqx, heap_set (heap_set (heap_set (heap_set (heap_set (heap_set e2 _) _) _) _) _) _]
  rfl
theorem splitW_x (e3 : w2.heap[x]? = some d.obj) (hqx : q ≠ x) (hnp : d.np = false) (hpx : d.px = A ++ B) : (splitW w2 q x l d A.length).heap[x]? = some (splitLow d A B).obj := by
  unfold splitW
  have h : ∀ (w : World) (i : Nat) (v : Value), (w.setCell ⟨q, i, none⟩ v).heap[x]? = w.heap[x]? := fun w i v => heap_set_ne hqx.symm v
  rw [heap_set (by rw [h, h, h, h, h, h]; exact e3)]
  have e : d.px.length - A.length = B.length := by rw [hpx, List.length_append]; omega
  rw [e]
  unfold Nd.obj splitLow Nd.pv
  simp [hnp]
theorem splitW_ne {k c : Nat} (h1 : k ≠ q) (h2 : k ≠ x) : (splitW w2 q x l d c).heap[k]? = w2.heap[k]? := by
  unfold splitW
  rw [heap_set_ne h2, heap_set_ne h1, heap_set_ne h1, heap_set_ne h1, heap_set_ne h1, heap_set_ne h1, heap_set_ne h1]
theorem splitW_size {c : Nat} : (splitW w2 q x l d c).heap.size = w2.heap.size := by unfold splitW; simp
theorem splitW_eq {c : Nat} : (((((((w2.setCell ⟨q, 0, none⟩ (.slice none 0 0)).setCell ⟨q, 1, none⟩ .nilIface).setCell ⟨q, 2, none⟩ (.int .i64 10)).setCell ⟨q, 3, none⟩ (.int .i64 8)).setCell ⟨q, 4, none⟩ (.iface 102 (ptr l))).setCell ⟨q, 0, none⟩ (.slice (some ⟨d.sb, d.so, none⟩) c d.sc)).setCell
    ⟨x, 0, none⟩ (.slice (some ⟨d.sb, d.so + c, none⟩) (d.px.length - c) (d.sc - c))) = splitW w2 q x l d c := rfl
theorem splitW_tch {c : Nat} : Tch w2 (splitW w2 q x l d c) (fun k => k = q ∨ k = x) := by
  have h : ∀ (w : World) (i : Nat) (v : Value), Tch w2 w (fun k => k = q ∨ k = x) → Tch w2 (w.setCell ⟨q, i, none⟩ v) (fun k => k = q ∨ k = x) := fun w i v h => h.setCell _ _ (fun _ => .inl rfl)
  exact (h _ _ _ (h _ _ _ (h _ _ _ (h _ _ _ (h _ _ _ (h _ _ _ (Tch.refl _ _))))))).setCell _ _ (fun _ => .inr rfl)
end

attribute [irreducible] splitW

section
variable {W w2 w5 : World} {t : Nat} {mp : Int} {rp : List UInt8} {M : List UInt8 → Option Int} {O : Nat → Prop} {N : Nat → Prop} {nd : Nat → Nd} {wd : Nat → List UInt8} {S : Nat → List UInt8} {sh : Nat → Nat} {q x y l a : Nat} {A B u : List UInt8}

/-- What is known behind NewTrie in a split. -/
structure SplitH (W w2 : World) (N : Nat → Prop) (nd : Nat → Nd) (q x y l a : Nat) (A B : List UInt8) : Prop where
  hq : N q
  hx : x = W.heap.size
  px : (nd q).px = A ++ B
  hB : B ≠ []
  hl : x < l
  ha : x < a
  e2 : w2.heap[q]? = some (nd q).obj
  e3 : w2.heap[x]? = some (nd q).obj
  raw : CLraw w2 (.sp l a 8 [])
  T : Tch W w2 (fun _ => False)

theorem SplitH.keep (H : SplitH W w2 N nd q x y l a A B) {k c : Nat} (hk : k < W.heap.size) (h : k ≠ q) : (splitW w2 q x l (nd q) c).heap[k]? = W.heap[k]? := by
  have := H.hx
  rw [splitW_ne h (by omega), H.T.keep k hk (fun h => h)]

theorem SplitH.low (H : SplitH W w2 N nd q x y l a A B) (TA0 : TA W t mp rp M O N nd wd S sh) : HN (splitW w2 q x l (nd q) A.length) x (splitLow (nd q) A B) := by
  have hx := H.hx
  have hN := TA0.T.H q H.hq
  have hnp := TA0.T.np H.hq
  have hql := lt_of_heap hN.obj
  obtain ⟨o1, o2, o3, o4⟩ := TA0.own q H.hq
  have l2 := TA0.lt _ o2
  have l3 := TA0.lt _ o3
  have l4 := TA0.lt _ o4
  have hle := hN.le
  rw [H.px, List.length_append] at hle
  refine ⟨splitW_x H.e3 (by omega) hnp H.px, ?_, by show B.length ≤ (nd q).sc - A.length; omega, fun _ => ?_⟩
  · exact hN.raw.frame (H.keep l2 (TA0.T.l_ne H.hq H.hq)) (H.keep l3 (TA0.T.a_ne H.hq H.hq))
  · obtain ⟨C, fr, h1, h2, h3, h4⟩ := hN.blk hnp
    have hs := H.keep (c := A.length) l4 (TA0.T.s_ne H.hq H.hq)
    refine ⟨C, fr, hs.trans h1, by show (nd q).so + A.length + ((nd q).sc - A.length) ≤ _; omega, fun i hi => by show (splitW w2 q x l (nd q) A.length).frozen? ⟨(nd q).sb, i, none⟩ = false; rw [frozen_same hs]; exact h3 i hi, fun i hi => ?_⟩
    have hi' : i < B.length := hi
    have := h4 (A.length + i) (by rw [H.px, List.length_append]; omega)
    show C[(nd q).so + A.length + i]? = some (.int .u8 ((B.getD i 0).toNat : Int))
    rw [Nat.add_assoc, this, H.px, List.getD_eq_getElem?_getD, List.getElem?_append_right (by omega), List.getD_eq_getElem?_getD, Nat.add_sub_cancel_left]

theorem SplitH.other (H : SplitH W w2 N nd q x y l a A B) (TA0 : TA W t mp rp M O N nd wd S sh) {p : Nat} (hp : N p) (hne : p ≠ q) : HN (splitW w2 q x l (nd q) A.length) p (nd p) := by
  have hN := TA0.T.H p hp
  obtain ⟨o1, o2, o3, o4⟩ := TA0.own p hp
  exact hN.frame (H.keep (TA0.lt _ o1) hne) (H.keep (TA0.lt _ o2) (TA0.T.l_ne hp H.hq)) (H.keep (TA0.lt _ o3) (TA0.T.a_ne hp H.hq)) (H.keep (TA0.lt _ o4) (TA0.T.s_ne hp H.hq))

theorem SplitH.top (H : SplitH W w2 N nd q x y l a A B) (TA0 : TA W t mp rp M O N nd wd S sh) : HN (splitW w2 q x l (nd q) A.length) q (splitTop (nd q) A (.sp l a 8 [])) := by
  have hx := H.hx
  have hN := TA0.T.H q H.hq
  have hnp := TA0.T.np H.hq
  have hql := lt_of_heap hN.obj
  obtain ⟨o1, o2, o3, o4⟩ := TA0.own q H.hq
  have l4 := TA0.lt _ o4
  have hle := hN.le
  have h1 := H.hl
  have h2 := H.ha
  rw [H.px, List.length_append] at hle
  refine ⟨splitW_q H.e2 (by omega), H.raw.frame (splitW_ne (by show l ≠ q; omega) (by show l ≠ x; omega)) (splitW_ne (by show a ≠ q; omega) (by show a ≠ x; omega)), by show A.length ≤ (nd q).sc; omega, fun _ => ?_⟩
  obtain ⟨C, fr, h1, h2, h3, h4⟩ := hN.blk hnp
  have hs := H.keep (c := A.length) l4 (TA0.T.s_ne H.hq H.hq)
  refine ⟨C, fr, hs.trans h1, h2, fun i hi => by show (splitW w2 q x l (nd q) A.length).frozen? ⟨(nd q).sb, i, none⟩ = false; rw [frozen_same hs]; exact h3 i hi, fun i hi => ?_⟩
  have hi' : i < A.length := hi
  have := h4 i (by rw [H.px, List.length_append]; omega)
  show C[(nd q).so + i]? = some (.int .u8 ((A.getD i 0).toNat : Int))
  rw [this, H.px, List.getD_eq_getElem?_getD, List.getElem?_append_left hi', List.getD_eq_getElem?_getD]

/-- compact returns the lower part. -/
theorem split_compact (H : SplitH W w2 N nd q x y l a A B) (TA0 : TA W t mp rp M O N nd wd S sh) (L : Lf 2 N nd) :
    Calls Try.prog 68 #[ptr x] (splitW w2 q x l (nd q) A.length) (fun e w' => e = .returned (ptr x) ∧ ∃ n, w' = (splitW w2 q x l (nd q) A.length).drewN n) := by
  have hx := H.hx
  have hnp := TA0.T.np H.hq
  refine (compact_any _ x (splitLow (nd q) A B) nd (H.low TA0) hnp (fun c hc => ?_) ?_).mono ?_
  · have hc' : c ∈ (nd q).cl.kids := hc
    obtain ⟨h1, h2, h3, h4⟩ := TA0.T.I.kid q H.hq c hc'
    have hcq : c ≠ q := fun h => by have := TA0.T.I.kid_longer H.hq hc'; rw [h] at this; omega
    have := lt_of_heap (TA0.T.H c h1).obj
    have hpl := TA0.T.pxl h1
    exact ⟨H.other TA0 h1 hcq, TA0.T.np h1, by omega, by omega, h4⟩
  · have := TA0.T.pxl H.hq
    rw [H.px, List.length_append] at this
    show B.length ≤ 1000
    omega
  · intro e w' h
    rcases h with ⟨h1, h2⟩ | ⟨c, _, hk, hi, _⟩
    · exact ⟨h1, h2⟩
    · exfalso
      have hk' : (nd q).cl.kids = [c] := hk
      have hi' : (nd q).it = none := hi
      rcases L q H.hq with h | h
      · exact h hi'
      · rw [hk'] at h; simp at h

/-- add at the upper part's new list. -/
theorem split_add (H : SplitH W w2 N nd q x y l a A B) (TA0 : TA W t mp rp M O N nd wd S sh) (n : Nat) :
    Calls Try.prog 112 #[ptr l, ptr x] ((splitW w2 q x l (nd q) A.length).drewN n) (AddP ((splitW w2 q x l (nd q) A.length).drewN n) (fbY nd x (B.headD 0)) (.sp l a 8 []) x) := by
  have hraw : CLraw ((splitW w2 q x l (nd q) A.length).drewN n) (.sp l a 8 []) := (H.top TA0).raw.dr n
  have h0 : ∀ c, ¬ c ∈ (CL.sp l a 8 []).kids := fun c hc => by simp [CL.kids] at hc
  have hkb : KB ((splitW w2 q x l (nd q) A.length).drewN n) (fbY nd x (B.headD 0)) (.sp l a 8 []) := ⟨fun c hc => (h0 c hc).elim, fun c d hc => (h0 c hc).elim, by simp [CL.kids], trivial⟩
  have hfb := ((H.low TA0).dr n).fbr (TA0.T.np H.hq) H.hB
  have e : (splitLow (nd q) A B).fb = fbY nd x (B.headD 0) x := by simp [fbY, Nd.fb, splitLow]
  rw [e] at hfb
  generalize (splitW w2 q x l (nd q) A.length).drewN n = W' at *
  have := add_any W' (fbY nd x (B.headD 0)) (.sp l a 8 []) x hraw hkb hfb (fun c hc => (h0 c hc).elim)
  exact this

/-- The cells of the upper part, behind it. -/
theorem split_q4 (H : SplitH W w2 N nd q x y l a A B) (TA0 : TA W t mp rp M O N nd wd S sh) {n : Nat} (hT : Tch ((splitW w2 q x l (nd q) A.length).drewN n) w5 (fun k => k = l ∨ k = a)) : w5.heap[q]? = some (splitTop (nd q) A (.sp l a 8 [])).obj := by
  have ho := ((H.top TA0).dr n).obj
  have h0 := lt_of_heap (TA0.T.H q H.hq).obj
  have hx := H.hx
  have h1 := H.hl
  have h2 := H.ha
  generalize (splitW w2 q x l (nd q) A.length).drewN n = W' at *
  rw [hT.keep q (lt_of_heap ho) (fun h => by rcases h with h | h <;> omega)]
  exact ho

/-- No key lies inside a node's part. -/
theorem inside_none (TA0 : TA W t mp rp M O N nd wd S sh) (hq : N q) (hpx : (nd q).px = A ++ B) (hB : B ≠ []) (hA : A ≠ [] ∨ q = t) (hu : wd q = u ++ (nd q).px) : M (u ++ A) = none := by
  by_cases h : M (u ++ A) = none
  · exact h
  · exfalso
    obtain ⟨p, hp, e⟩ := TA0.C.of _ h
    have I := TA0.T.I
    have hBl := List.length_pos_iff.2 hB
    have hlen : (wd q).length = (wd p).length + B.length := by rw [hu, e, hpx]; simp; omega
    have hpre : wd p <+: wd q := by rw [hu, e, hpx, ← List.append_assoc]; exact List.prefix_append _ _
    by_cases hqt : q = t
    · subst hqt
      have := (I.root_le hp).length_le
      omega
    · have hAl : 0 < A.length := by
        rcases hA with h | h
        · exact List.length_pos_iff.2 h
        · exact absurd h hqt
      obtain ⟨P, hP, hc⟩ := I.par q hq hqt
      have hw := (I.kid P hP q hc).2.2.1
      have huP : u = wd P := by rw [hu] at hw; exact List.append_cancel_right hw
      have hPp : wd P <+: wd p := by rw [e, huP]; exact List.prefix_append _ _
      rcases I.desc hP hp hPp with h' | ⟨c', hc', h'⟩
      · rw [h'] at e
        have := congrArg List.length e
        rw [← huP, List.length_append] at this
        omega
      · have : c' = q := I.same_kid hP hc' hc (h'.trans hpre) (List.prefix_refl _)
        subst this
        have := h'.length_le
        omega

set_option maxHeartbeats 1600000 in
theorem split_ta (H : SplitH W w2 N nd q x y l a A B) (TA0 : TA W t mp rp M O N nd wd S sh) (hmp : mp = 10 ∨ q = t) (hu : wd q = u ++ (nd q).px) (hA : A ≠ [] ∨ q = t) {cl' : CL} {n : Nat}
    (hadd : CLraw w5 cl' ∧ cl'.kids.Perm (x :: (CL.sp l a 8 []).kids) ∧ cl'.placed (fbY nd x (B.headD 0)) ∧ (cl'.l = l ∨ w2.heap.size ≤ cl'.l) ∧ (cl'.a = a ∨ w2.heap.size ≤ cl'.a) ∧ Tch ((splitW w2 q x l (nd q) A.length).drewN n) w5 (fun k => k = l ∨ k = a)) :
    ∃ O' rp', TA (w5.setCell ⟨q, 4, none⟩ cl'.val) t 10 rp' M O' (fun y => N y ∨ y = x) (upd (upd nd q (splitTop (nd q) A cl')) x (splitLow (nd q) A B)) (upd (upd wd q (u ++ A)) x (wd q)) S sh ∧
      (∀ k, O' k → O k ∨ (W.heap.size ≤ k ∧ k < (w5.setCell ⟨q, 4, none⟩ cl'.val).heap.size)) ∧ Tch W (w5.setCell ⟨q, 4, none⟩ cl'.val) O ∧
      (Lf 2 N nd → LfX 2 (fun y => N y ∨ y = x) (upd (upd nd q (splitTop (nd q) A cl')) x (splitLow (nd q) A B)) q) ∧ cl'.kids = [x] := by
  obtain ⟨k1, k2, k3, k4, k5, k8⟩ := hadd
  have hk : cl'.kids = [x] := by
    have : cl'.kids.Perm [x] := k2
    exact List.perm_singleton.1 this
  have hx := H.hx
  have hxl := H.hl
  have hxa := H.ha
  have hq := H.hq
  have hqo := (TA0.T.H q hq).obj
  have hql := lt_of_heap hqo
  have hxN : ¬ N x := fun h => by have := lt_of_heap (TA0.T.H x h).obj; omega
  have hqx : q ≠ x := fun h => hxN (h ▸ hq)
  have hnp := TA0.T.np hq
  have ltN : ∀ p, N p → p < W.heap.size ∧ (nd p).cl.l < W.heap.size ∧ (nd p).cl.a < W.heap.size ∧ (nd p).sb < W.heap.size := fun p hp => by
    obtain ⟨o1, o2, o3, o4⟩ := TA0.own p hp
    exact ⟨TA0.lt _ o1, TA0.lt _ o2, TA0.lt _ o3, TA0.lt _ o4⟩
  have hw2 : W.heap.size ≤ w2.heap.size := H.T.size
  have hlow := (H.low TA0).dr n
  have htop := (H.top TA0).dr n
  have hoth := fun p hp hne => ((H.other TA0 (p := p) hp hne).dr n)
  have hs3 : ((splitW w2 q x l (nd q) A.length).drewN n).heap.size = w2.heap.size := splitW_size
  have hT3 : Tch W ((splitW w2 q x l (nd q) A.length).drewN n) O :=
    ((H.T.mono (fun _ _ h => h.elim)).trans splitW_tch (T := O) (fun b hb h => by rcases h with h | h; exact h ▸ (TA0.own q hq).1; omega)).drn n
  generalize (splitW w2 q x l (nd q) A.length).drewN n = W3 at *
  have hs5 : W3.heap.size ≤ w5.heap.size := k8.size
  have kp5 : ∀ k, k < W3.heap.size → k ≠ l → k ≠ a → w5.heap[k]? = W3.heap[k]? := fun k hk n1 n2 => k8.keep k hk (fun h => by rcases h with h | h; exact n1 h; exact n2 h)
  obtain ⟨CL1, hcl1⟩ := k1.l_ty
  obtain ⟨CA1, hca1⟩ := k1.a_ty
  have hq5 : w5.heap[q]? = some (splitTop (nd q) A (.sp l a 8 [])).obj := by rw [kp5 q (by omega) (by omega) (by omega)]; exact htop.obj
  have nl : cl'.l ≠ q := ne_of_type hcl1 hq5 (CL.sty_ne _).1
  have na : cl'.a ≠ q := ne_of_type hca1 hq5 (by decide)
  have kp6 : ∀ k, k ≠ q → (w5.setCell ⟨q, 4, none⟩ cl'.val).heap[k]? = w5.heap[k]? := fun k h => heap_set_ne h _
  have hs6 : (w5.setCell ⟨q, 4, none⟩ cl'.val).heap.size = w5.heap.size := by simp
  have hxlt := lt_of_heap hlow.obj
  have hclb : W.heap.size ≤ cl'.l ∧ cl'.l < w5.heap.size := ⟨by rcases k4 with h | h <;> omega, k1.lt.1⟩
  have hcab : W.heap.size ≤ cl'.a ∧ cl'.a < w5.heap.size := ⟨by rcases k5 with h | h <;> omega, k1.lt.2⟩
  have hpl : cl'.placed (fun c => (upd (upd nd q (splitTop (nd q) A cl')) x (splitLow (nd q) A B) c).fb) := by
    refine placed_perm k3 (fun c hc => ?_)
    rw [hk] at hc
    simp at hc
    subst hc
    rw [upd_self]
    simp [fbY, Nd.fb, splitLow]
  have I' := TA0.T.I.split (q := q) (x := x) (A := A) (B := B) (u := u) (cl' := cl') hq hxN hnp H.px H.hB hA hu hk hpl (fun p hp h => by have := (ltN p hp).2.1; omega) (fun p hp h => by have := (ltN p hp).2.2.1; omega)
  have nx : ∀ {p}, N p → p ≠ x := fun {p} hp h => hxN (h ▸ hp)
  have ex : upd (upd nd q (splitTop (nd q) A cl')) x (splitLow (nd q) A B) x = splitLow (nd q) A B := upd_self _ _ _
  have eq' : upd (upd nd q (splitTop (nd q) A cl')) x (splitLow (nd q) A B) q = splitTop (nd q) A cl' := by rw [upd_ne _ _ hqx, upd_self]
  have eo : ∀ p, N p → p ≠ q → upd (upd nd q (splitTop (nd q) A cl')) x (splitLow (nd q) A B) p = nd p := fun p hp h => by rw [upd_ne _ _ (nx hp), upd_ne _ _ h]
  have wx : upd (upd wd q (u ++ A)) x (wd q) x = wd q := upd_self _ _ _
  have wq : upd (upd wd q (u ++ A)) x (wd q) q = u ++ A := by rw [upd_ne _ _ hqx, upd_self]
  have wo : ∀ p, N p → p ≠ q → upd (upd wd q (u ++ A)) x (wd q) p = wd p := fun p hp h => by rw [upd_ne _ _ (nx hp), upd_ne _ _ h]
  have hMA := inside_none TA0 hq H.px H.hB hA hu
  generalize upd (upd nd q (splitTop (nd q) A cl')) x (splitLow (nd q) A B) = nd' at *
  generalize upd (upd wd q (u ++ A)) x (wd q) = wd' at *
  have fr3 : ∀ p d, HN W3 p d → p ≠ q → p ≠ l → p ≠ a → d.cl.l ≠ q → d.cl.l ≠ l → d.cl.l ≠ a → d.cl.a ≠ q → d.cl.a ≠ l → d.cl.a ≠ a → d.sb ≠ q → d.sb ≠ l → d.sb ≠ a → d.sb < W3.heap.size → HN (w5.setCell ⟨q, 4, none⟩ cl'.val) p d := by
    intro p d h a1 a2 a3 b1 b2 b3 c1 c2 c3 d1 d2 d3 d4
    exact h.frame ((kp6 p a1).trans (kp5 p (lt_of_heap h.obj) a2 a3)) ((kp6 _ b1).trans (kp5 _ h.raw.lt.1 b2 b3)) ((kp6 _ c1).trans (kp5 _ h.raw.lt.2 c2 c3)) ((kp6 _ d1).trans (kp5 _ d4 d2 d3))
  obtain ⟨q1, q2, q3, q4⟩ := ltN q hq
  refine ⟨fun k => O k ∨ (W.heap.size ≤ k ∧ k < w5.heap.size), (nd' t).px, ⟨⟨I', ?_, ?_⟩, ⟨?_, ?_⟩, ?_, ?_, ?_, rfl⟩, fun k h => by rw [hs6]; exact h, ?_, ?_, hk⟩
  · rintro p (hp | rfl)
    · by_cases hpq : p = q
      · subst hpq
        rw [eq']
        refine ⟨?_, k1.frame (kp6 _ nl) (kp6 _ na), htop.le, fun h => ?_⟩
        · rw [heap_set hq5]; rfl
        · obtain ⟨C, fr, b1, b2, b3, b4⟩ := htop.blk h
          have hs : (w5.setCell ⟨p, 4, none⟩ cl'.val).heap[(nd p).sb]? = W3.heap[(nd p).sb]? := (kp6 _ (TA0.T.s_ne hp hp)).trans (kp5 _ (by omega) (by omega) (by omega))
          exact ⟨C, fr, hs.trans b1, b2, fun i hi => by show (w5.setCell ⟨p, 4, none⟩ cl'.val).frozen? ⟨(nd p).sb, i, none⟩ = false; rw [frozen_same hs]; exact b3 i hi, b4⟩
      · rw [eo p hp hpq]
        obtain ⟨g1, g2, g3, g4⟩ := ltN p hp
        exact fr3 p _ (hoth p hp hpq) hpq (by omega) (by omega) (TA0.T.l_ne hp hq) (by omega) (by omega) (TA0.T.a_ne hp hq) (by omega) (by omega) (TA0.T.s_ne hp hq) (by omega) (by omega) (by omega)
    · rw [ex]
      exact fr3 _ _ hlow hqx.symm (by omega) (by omega) (TA0.T.l_ne hq hq) (by show (nd q).cl.l ≠ l; omega) (by show (nd q).cl.l ≠ a; omega) (TA0.T.a_ne hq hq) (by show (nd q).cl.a ≠ l; omega) (by show (nd q).cl.a ≠ a; omega) (TA0.T.s_ne hq hq) (by show (nd q).sb ≠ l; omega) (by show (nd q).sb ≠ a; omega) (by show (nd q).sb < _; omega)
  · by_cases h : t = q
    · subst h; rw [eq']; rfl
    · rw [eo t TA0.T.I.root_mem h]; exact TA0.T.rn
  · rintro p (hp | rfl)
    · by_cases hpq : p = q
      · subst hpq; rw [wq, eq', hMA]; rfl
      · rw [wo p hp hpq, eo p hp hpq]; exact TA0.C.at_ p hp
    · rw [wx, ex]; exact TA0.C.at_ q hq
  · intro k hk
    obtain ⟨p, hp, e⟩ := TA0.C.of k hk
    by_cases hpq : p = q
    · subst hpq; exact ⟨x, .inr rfl, by rw [wx]; exact e⟩
    · exact ⟨p, .inl hp, by rw [wo p hp hpq]; exact e⟩
  · obtain ⟨o1, o2, o3, o4⟩ := TA0.own q hq
    rintro p (hp | rfl)
    · by_cases hpq : p = q
      · subst hpq
        rw [eq']
        exact ⟨.inl o1, .inr hclb, .inr hcab, .inl o4⟩
      · rw [eo p hp hpq]
        obtain ⟨o1, o2, o3, o4⟩ := TA0.own p hp
        exact ⟨.inl o1, .inl o2, .inl o3, .inl o4⟩
    · rw [ex]
      exact ⟨.inr ⟨by omega, by omega⟩, .inl o2, .inl o3, .inl o4⟩
  · intro k hk
    rw [hs6]
    rcases hk with h | h
    · have := TA0.lt k h; omega
    · exact h.2
  · by_cases h : t = q
    · subst h; rw [eq']; rfl
    · rw [eo t TA0.T.I.root_mem h, TA0.mp]
      rcases hmp with h' | h'
      · exact h'
      · exact absurd h'.symm h
  · exact (hT3.trans k8 (T := O) (fun b hb h => by rcases h with h | h <;> omega)).setCell _ _ (fun _ => (TA0.own q hq).1)
  · intro L
    rintro p (hp | rfl) hne
    · rw [eo p hp hne]; exact L p hp
    · rw [ex]; exact L q hq

theorem split_put (H : SplitH W w2 N nd q x y l a A B) (TA0 : TA W t mp rp M O N nd wd S sh) (L : Lf 2 N nd) (hmp : mp = 10 ∨ q = t) (hu : wd q = u ++ (nd q).px) (hA : A ≠ [] ∨ q = t) {cl' : CL} {n : Nat}
    (hadd : CLraw w5 cl' ∧ cl'.kids.Perm (x :: (CL.sp l a 8 []).kids) ∧ cl'.placed (fbY nd x (B.headD 0)) ∧ (cl'.l = l ∨ w2.heap.size ≤ cl'.l) ∧ (cl'.a = a ∨ w2.heap.size ≤ cl'.a) ∧ Tch ((splitW w2 q x l (nd q) A.length).drewN n) w5 (fun k => k = l ∨ k = a)) :
    ∃ O' rp' N' nd' wd', TA (w5.setCell ⟨q, 4, none⟩ cl'.val) t 10 rp' M O' N' nd' wd' S sh ∧ N' q ∧ LfX 2 N' nd' q ∧ (nd' q).it = none ∧ wd' q = u ++ A ∧ (nd' q).cl.kids.length = 1 ∧ (∀ c, c ∈ (nd' q).cl.kids → (nd' c).fb = B.headD 0) ∧
      (∀ k, O' k → O k ∨ (W.heap.size ≤ k ∧ k < (w5.setCell ⟨q, 4, none⟩ cl'.val).heap.size)) ∧ Tch W (w5.setCell ⟨q, 4, none⟩ cl'.val) O := by
  obtain ⟨O', rp', h1, h2, h3, h4, h5⟩ := split_ta H TA0 hmp hu hA hadd
  have hqx : q ≠ x := fun h => by have := lt_of_heap (TA0.T.H q H.hq).obj; have := H.hx; omega
  have eq' : upd (upd nd q (splitTop (nd q) A cl')) x (splitLow (nd q) A B) q = splitTop (nd q) A cl' := by rw [upd_ne _ _ hqx, upd_self]
  refine ⟨O', rp', _, _, _, h1, .inl H.hq, h4 L, by rw [eq']; rfl, by rw [upd_ne _ _ hqx, upd_self], by rw [eq']; show cl'.kids.length = 1; rw [h5]; rfl, fun c hc => ?_, h2, h3⟩
  rw [eq'] at hc
  have hc' : c ∈ cl'.kids := hc
  rw [h5] at hc'
  simp at hc'
  subst hc'
  rw [upd_self]
  rfl

theorem PutP.after {W W6 w' : World} {O O' : Nat → Prop} {K : List UInt8} {i : Int} {rep : Bool} {kb lf : Nat} {e : Ending} (h : PutP W6 t lf M O' K i rep kb e w') (hT : Tch W W6 O) (hO : ∀ k, O' k → O k ∨ (W.heap.size ≤ k ∧ k < W6.heap.size)) : PutP W t lf M O K i rep kb e w' := by
  obtain ⟨h1, O2, rp', h2, h3, h4⟩ := h
  have := hT.size
  have := h4.size
  refine ⟨h1, O2, rp', h2, fun k hk => ?_, hT.trans h4 (fun b hb h => ?_)⟩
  · rcases h3 k hk with h | h | h
    · rcases hO k h with h | h
      · exact .inl h
      · exact .inr (.inr ⟨h.1, by omega⟩)
    · exact .inr (.inl h)
    · exact .inr (.inr ⟨by omega, h.2⟩)
  · rcases hO b h with h | h
    · exact h
    · omega
end

end Go.Proofs.Ytmdbnjepajifpaa

/- put. -/
namespace Go.Proofs.Ytmdbnjepajifpaa
open Go.RowKit

/-- What the loop of put knows at a node. -/
def PutI (root : Nat) (N : Nat → Prop) (nd : Nat → Nd) (wd : Nat → List UInt8) (w : World) (mp : Int) (kb kc : Nat) (K : List UInt8) (q : Nat) (k : List UInt8) (o m : Nat) : Prop :=
  Srch root N nd wd K q k ∧ KS w kb o k ∧ o + k.length = K.length ∧ o + m ≤ kc ∧ k.length ≤ m ∧ (mp = 10 ∨ (q = root ∧ lcp (nd q).px k < (nd q).px.length))

section
variable {w w' : World} {t lf : Nat} {mp : Int} {rp : List UInt8} {M : List UInt8 → Option Int} {O : Nat → Prop} {N : Nat → Prop} {nd : Nat → Nd} {wd : Nat → List UInt8} {S : Nat → List UInt8} {sh : Nat → Nat} {K k : List UInt8} {q : Nat}

theorem put_keep (A : Hid (TA w t 10 rp M O N nd wd S sh)) (L : Hid (Lf lf N nd)) (i : Int) (kb n : Nat) (hM : M K ≠ none) : PutP w t lf M O K i false kb (.returned (.bool false)) (w.drewN n) := by
  have h : (false || (M K).isNone) = false := by cases h : M K <;> simp_all
  refine ⟨by rw [h], O, rp, ?_, fun k hk => .inl hk, Tch.dr n⟩
  rw [h]
  exact ⟨N, nd, wd, S, sh, A.out.dr n, L.out⟩

theorem put_item (A : Hid (TA w t 10 rp M O N nd wd S sh)) (L : LfX lf N nd q) (hq : N q) (hK : K = wd q) (i : Int) (rep : Bool) (kb n : Nat) (hM : (rep || (M K).isNone) = true) :
    PutP w t lf M O K i rep kb (.returned (.bool true)) ((w.drewN n).setCell ⟨q, 1, none⟩ (.iface 3 (.int .i64 i))) := by
  have A := A.out
  refine ⟨by rw [hM], O, rp, ?_, fun k hk => .inl hk, (Tch.dr n).setCell _ _ (fun _ => (A.own q hq).1)⟩
  rw [hM, if_pos rfl, hK]
  exact ⟨N, _, wd, S, sh, A.setItem hq (some i) rfl, L.setItem _ (.inl (by simp))⟩

theorem put_put {w1 w2 w4 : World} {r : List UInt8} {q y l a kb kc so sc n : Nat} {cl' : CL} (P : Hid (PutT w t lf rp M O N nd wd S sh K r q kb kc so sc)) (i : Int) (rep : Bool)
    (h1 : w1.heap = w.heap) (hT1 : Tch w w1 (fun _ => False)) (hY : Hid (w1.heap.size ≤ y ∧ w1.heap.size ≤ l ∧ w1.heap.size ≤ a ∧ w2.heap[y]? = some (freshNd l a 8 10 8).obj ∧ CLraw w2 (.sp l a 8 []) ∧ Tch w1 w2 (fun _ => False)))
    (hn : n = r.length) (hP : Hid (CLraw w4 cl' ∧ cl'.kids.Perm (y :: (nd q).cl.kids) ∧ cl'.placed (fbY nd y (r.headD 0)) ∧ (cl'.l = (nd q).cl.l ∨ (w2.setCell ⟨y, 0, none⟩ (.slice (some ⟨kb, so, none⟩) n sc)).heap.size ≤ cl'.l) ∧ (cl'.a = (nd q).cl.a ∨ (w2.setCell ⟨y, 0, none⟩ (.slice (some ⟨kb, so, none⟩) n sc)).heap.size ≤ cl'.a) ∧
      Tch (w2.setCell ⟨y, 0, none⟩ (.slice (some ⟨kb, so, none⟩) n sc)) w4 (fun k => k = (nd q).cl.l ∨ k = (nd q).cl.a))) :
    PutP w t lf M O K i rep kb (.returned (.bool true)) ((w4.setCell ⟨q, 4, none⟩ (.iface cl'.ty (ptr cl'.l))).setCell ⟨y, 1, none⟩ (.iface 3 (.int .i64 i))) := by
  subst hn
  obtain ⟨O', h1, h2, h3⟩ := P.out.put i h1 hT1 hY.out hP.out
  have hM : (rep || (M K).isNone) = true := by rw [P.out.new]; simp
  refine ⟨by rw [hM], O', rp, ?_, h2, h3⟩
  rw [hM, if_pos rfl]
  exact h1
end

set_option maxHeartbeats 12800000 in
set_option maxRecDepth 100000 in
theorem put_any (w : World) (t : Nat) (mp : Int) (rp : List UInt8) (M : List UInt8 → Option Int) (O : Nat → Prop) (HT : TrieAt w t 2 mp rp M O) (kb kc : Nat) (K : List UInt8) (hK : KeyAt w kb kc K) (hkb : ¬ O kb)
    (_hk0 : 0 < K.length) (hk1 : K.length ≤ 10) (hmp : mp = 10 ∨ lcp rp K < rp.length) (i : Int) (rep : Bool) :
    Calls Try.prog 62 #[ptr t, .slice (some ⟨kb, 0, none⟩) K.length kc, .iface 3 (.int .i64 i), .bool rep] w (PutP w t 2 M O K i rep kb) := by
  obtain ⟨N, nd, wd, S, sh, A, L⟩ := HT
  have hroot := A.T.H t A.T.I.root_mem
  have c0 := hroot.sl A.T.rn
  have c2 := hroot.c2
  rw [A.mp] at c2
  have hnil := fun (W : World) (a : Addr) (n c : Nat) => Lib.run_eql_slice_nil (P := Try.prog) W 53 5 (some a) n c 0 0 Try.underlying53
  have HA := Lib.hid A
  have HLF := Lib.hid L
  have HK := Lib.hid hK
  have HKB := Lib.hid hkb
  have hmp' : mp = 10 ∨ (t = t ∧ lcp (nd t).px K < (nd t).px.length) := hmp.imp id (fun h => ⟨rfl, by rw [A.rp]; exact h⟩)
  have HMP := Lib.hid hmp'
  clear A L hroot hK hkb hmp hmp'
  go_enter Try.func62, Try.ntmps62
  go_wp2_with fail
  refine wp_scope3 rfl rfl rfl ?_
  intro J0 J1 J2 hJ0 hJ1 hJ2
  go_wp2_with fail
  go_loopw [1, 10] (fun key node wr => ∃ (k : List UInt8) (o m q n : Nat), key = .slice (some ⟨kb, o, none⟩) k.length m ∧ node = ptr q ∧ wr = w.drewN n ∧ k.length ≤ m ∧ k.length ≤ 10 ∧ Hid (PutI t N nd wd w mp kb kc K q k o m))
    (fun key node _ => 2 * slen key + atRoot t node)
  case atStart => exact ⟨K, 0, kc, t, 0, rfl, rfl, rfl, HK.out.2.1, hk1, (⟨Srch.start HA.out.T.I K, HK.out.1, by omega, by omega, HK.out.2.1, HMP.out.imp id (fun h => ⟨rfl, h.2⟩)⟩ : PutI t N nd wd w mp kb kc K t K 0 kc)⟩
  case round =>
    obtain ⟨k, o, m, q, n, rfl, rfl, rfl, hkm, hk10, HS⟩ := hrel
    have hN := HS.out.1.mem
    have hn := HA.out.T.H q hN
    have hnp := HA.out.T.np hN
    have hpx := HA.out.T.pxl hN
    obtain ⟨c, hc⟩ : ∃ c, lcp (nd q).px k = c := ⟨_, rfl⟩
    have hcl := lcp_le_left (nd q).px k
    have hcr := lcp_le_right (nd q).px k
    have hl := lcp_q w q kb o m (nd q) k hn hnp HS.out.2.1 (by omega) (by omega) n
    rw [hc] at hcl hcr hl
    have HL := Lib.hid hl
    have HC := Lib.hid hc
    have q0 := hn.sl hnp
    have q4 := hn.c4
    unfold CL.val at q4
    have Hn := Lib.hid hn
    clear hl hc hn hnp hN
    have m1 := m_next (nd q).cl
    have m2 := f_next (nd q).cl
    by_cases hsplit : c < (nd q).px.length
    · have g2 : (c : Int) < ((nd q).px.length : Int) := by omega
      have HJ2 := Lib.hid hJ2
      clear m1 m2 hJ2 q4
      by_cases h1 : c = k.length
      · subst h1
        by_cases hmc : m = k.length
        all_goals
          try subst hmc
          have hwq : ∃ u, wd q = u ++ (nd q).px ∧ K = u ++ k := HS.out.1.cut
          obtain ⟨u, hu1, hu2⟩ := hwq
          have hlt := HS.out.1
          have hA0 : (nd q).px.take k.length ≠ [] ∨ q = t := by
            rcases HS.out.1.hd with h | h
            · exact .inr h
            · left
              intro e
              have h1 := congrArg List.length e
              rw [List.length_take] at h1
              simp only [List.length_nil] at h1
              have h2 : k.length = 0 := by omega
              rw [← HC.out] at h2
              have h3 := lcp_stop (nd q).px k (by omega) (by rw [h2]; cases hk' : k with
                | nil => rw [hk'] at h; simp at h
                | cons b k' => simp)
              rw [h2] at h3
              apply h3
              rw [← List.head?_eq_getElem?, ← List.head?_eq_getElem?, h]
              unfold Nd.fb
              cases hp : (nd q).px with
              | nil => rw [hp] at hsplit; simp at hsplit
              | cons b k' => simp
          have hmpq : mp = 10 ∨ q = t := HS.out.2.2.2.2.2.imp id (fun h => h.1)
          have HQ := Lib.hid (⟨hu1, hu2, hA0, hmpq⟩ : _ ∧ _ ∧ _ ∧ _)
          clear hu1 hu2 hlt hA0 hmpq
          go_wp2_with (first | go_step3 | with_reducible refine j3_i0 ?_ | with_reducible refine j3_i1 ?_ | with_reducible refine j3_i2 ?_ | with_reducible refine j1_i0 ?_ | (go_at_call 70; refine HL.out.mono ?_; rintro e w' ⟨rfl, n1, rfl⟩))
          refine HJ2.out _ _ ?_
          have A1 := HA.out.dr (n + n1)
          have HS1 : Srch t N nd wd K q k ∧ KS (w.drewN (n + n1)) kb o k := ⟨HS.out.1, HS.out.2.1⟩
          have Hq1 := Hn.out.dr (n + n1)
          have hT1 := Tch.dr (w := w) (T := O) (n + n1)
          have hh1 : (w.drewN (n + n1)).heap = w.heap := rfl
          generalize w.drewN (n + n1) = W at A1 HS1 Hq1 hT1 hh1 ⊢
          have q0 := Hq1.sl (A1.T.np HS1.1.mem)
          have q1 := Hq1.c1
          have q2 := Hq1.c2
          have q3 := Hq1.c3
          have q4 := Hq1.c4
          unfold CL.val at q4
          have hst := fun (W : World) (a : Addr) (md : Mode) => run_store Try.prog W a (itv (nd q).it) md (itv_one _)
          have hqal : ∀ (j : Nat) (o : Obj), (W.alloc o).cell? ⟨q, j, none⟩ = W.cell? ⟨q, j, none⟩ := fun j o => cell_alloc_lt Hq1.obj o 0 j
          have HA1 := Lib.hid A1
          have HS1 := Lib.hid HS1
          have Hq1 := Lib.hid Hq1
          have HT1 := Lib.hid (⟨hT1, hh1⟩ : _ ∧ _)
          clear A1 hT1 hh1
          go_wp2_with (first | go_step3 | with_reducible refine j3_i0 ?_ | with_reducible refine j3_i1 ?_ | with_reducible refine j3_i2 ?_ | with_reducible refine j1_i0 ?_ | (go_at_call 70; refine HL.out.mono ?_; rintro e w' ⟨rfl, n1, rfl⟩))
          clear q0 q1 q2 q3 q4 hst hqal c0 c2
          refine (newTrie_nil _).mono ?_
          rintro e w2 ⟨y, l, a, rfl, hy, hl, ha, hyo, hraw2, hT2⟩
          rw [World.size_alloc] at hy hl ha
          have hqlt : q < W.heap.size := lt_of_heap Hq1.out.obj
          have hyq : ¬ y = q := by omega
          have hyx : ¬ y = W.heap.size := by omega
          have hqx : ¬ q = W.heap.size := by omega
          have hxq : ¬ W.heap.size = q := by omega
          have e2 : w2.heap[q]? = some (nd q).obj := (hT2.keep q (by rw [World.size_alloc]; omega) (fun h => h)).trans (heap_al Hq1.out.obj)
          have e3 : w2.heap[W.heap.size]? = some (nd q).obj := by
            rw [hT2.keep W.heap.size (by rw [World.size_alloc]; omega) (fun h => h), heap_new, Nd.obj, Nd.pv, HA1.out.T.np HS1.out.1.mem]; rfl
          have y0 : w2.cell? ⟨y, 0, none⟩ = some (.slice none 0 0) := by rw [cell_of_block hyo]; rfl
          have y1 : w2.cell? ⟨y, 1, none⟩ = some .nilIface := by rw [cell_of_block hyo]; rfl
          have y2 : w2.cell? ⟨y, 2, none⟩ = some (.int .i64 10) := by rw [cell_of_block hyo]; rfl
          have y3 : w2.cell? ⟨y, 3, none⟩ = some (.int .i64 8) := by rw [cell_of_block hyo]; rfl
          have y4 : w2.cell? ⟨y, 4, none⟩ = some (.iface 102 (ptr l)) := by rw [cell_of_block hyo]; rfl
          have q0 : w2.cell? ⟨q, 0, none⟩ = some (nd q).pv := by rw [cell_of_block e2]; rfl
          have q1 : w2.cell? ⟨q, 1, none⟩ = some (itv (nd q).it) := by rw [cell_of_block e2]; rfl
          have q2 : w2.cell? ⟨q, 2, none⟩ = some (.int .i64 (nd q).mp) := by rw [cell_of_block e2]; rfl
          have q3 : w2.cell? ⟨q, 3, none⟩ = some (.int .i64 (nd q).mc) := by rw [cell_of_block e2]; rfl
          have q4 : w2.cell? ⟨q, 4, none⟩ = some (nd q).cl.val := by rw [cell_of_block e2]; rfl
          have x0 : w2.cell? ⟨W.heap.size, 0, none⟩ = some (.slice (some ⟨(nd q).sb, (nd q).so, none⟩) (nd q).px.length (nd q).sc) := by
            rw [cell_of_block e3, Nd.pv, HA1.out.T.np HS1.out.1.mem]; rfl
          have qf0 := free_of_block e2 0
          have qf1 := free_of_block e2 1
          have qf2 := free_of_block e2 2
          have qf3 := free_of_block e2 3
          have qf4 := free_of_block e2 4
          have xf := free_of_block e3 0
          have HE : Hid (SplitH W w2 N nd q W.heap.size y l a ((nd q).px.take k.length) ((nd q).px.drop k.length)) :=
            (⟨HS1.out.1.mem, rfl, (List.take_append_drop _ _).symm, fun h => by have := congrArg List.length h; rw [List.length_drop] at this; simp at this; omega, by omega, by omega, e2, e3, hraw2, ((Tch.refl W _).alloc _).trans hT2 (fun _ _ h => h)⟩ : SplitH W w2 N nd q W.heap.size y l a ((nd q).px.take k.length) ((nd q).px.drop k.length))
          have hsc := Hq1.out.le
          have hscc : ¬ (nd q).sc = k.length := by omega
          have hAc : ((nd q).px.take k.length).length = k.length := by rw [List.length_take]; omega
          clear hy hl ha hyo hraw2 hT2 e2 e3
          go_wp2_with (first | go_step3 | with_reducible refine j3_i0 ?_ | with_reducible refine j3_i1 ?_ | with_reducible refine j3_i2 ?_ | with_reducible refine j1_i0 ?_ | (go_at_call 70; refine HL.out.mono ?_; rintro e w' ⟨rfl, n1, rfl⟩))
          rw [splitW_eq]
          have hcomp := split_compact HE.out HA1.out HLF.out
          have hadd := split_add HE.out HA1.out
          rw [hAc] at hcomp hadd
          refine hcomp.mono ?_
          have HADD := Lib.hid hadd
          clear hcomp hadd q0 q1 q2 q3 q4 y0 y1 y2 y3 y4 qf0 qf1 qf2 qf3 qf4 x0 xf
          rintro e w3 ⟨rfl, n2, rfl⟩
          have htop := ((HE.out.top HA1.out).dr n2).c4
          rw [hAc] at htop
          have q4 : ((splitW w2 q W.heap.size l (nd q) k.length).drewN n2).cell? ⟨q, 4, none⟩ = some (.iface 102 (ptr l)) := htop
          clear htop
          have hmth : ∀ w', (method 270 102 (.pointer (some ⟨l, 0, none⟩)) "loop.example/pub-patriciatries/pub/patricia.add").run Try.prog w' = .ok (112, .pointer (some ⟨l, 0, none⟩)) w' := fun w' => m_add (.sp l a 8 []) w'
          go_wp2_with (first | go_step3 | with_reducible refine j3_i0 ?_ | with_reducible refine j3_i1 ?_ | with_reducible refine j3_i2 ?_ | with_reducible refine j1_i0 ?_ | (go_at_call 70; refine HL.out.mono ?_; rintro e w' ⟨rfl, n1, rfl⟩))
          refine (HADD.out n2).mono ?_
          rintro e w5 ⟨cl', rfl, k1, k2, k3, k4, k5, k6, k7, k8⟩
          have k8' := k8
          rw [← hAc] at k8'
          have v1 := split_q4 HE.out HA1.out k8'
          have z1 : w5.cell? ⟨q, 4, none⟩ = some (.iface 102 (ptr l)) := by rw [cell_of_block v1]; rfl
          have z2 := free_of_block v1 4
          have hsw : (splitW w2 q W.heap.size l (nd q) k.length).heap.size = w2.heap.size := splitW_size
          have k4' : cl'.l = l ∨ w2.heap.size ≤ cl'.l := by rw [← hsw]; exact k4
          have k5' : cl'.a = a ∨ w2.heap.size ≤ cl'.a := by rw [← hsw]; exact k5
          have hsp := split_put HE.out HA1.out HLF.out HQ.out.2.2.2 HQ.out.1 HQ.out.2.2.1 ⟨k1, k2, k3, k4', k5', k8'⟩
          have HSP := Lib.hid hsp
          clear k1 k2 k3 k4 k5 k6 k7 k8 k8' k4' k5' hsw hsp v1 q4 hmth HADD
          simp only [CL.val]
          go_wp2_with (first | go_step3 | with_reducible refine j3_i0 ?_ | with_reducible refine j3_i1 ?_ | with_reducible refine j3_i2 ?_ | with_reducible refine j1_i0 ?_ | (go_at_call 70; refine HL.out.mono ?_; rintro e w' ⟨rfl, n1, rfl⟩))
          have hsp := HSP.out
          clear HSP z1 z2
          simp only [CL.val] at hsp
          generalize w5.setCell ⟨q, 4, none⟩ (.iface cl'.ty (ptr cl'.l)) = W6 at hsp ⊢
          obtain ⟨O6, rp6, N6, nd6, wd6, A6, hq6, L6, it6, wq6, kl6, fb6, O66, T6⟩ := hsp
          have HA6 := Lib.hid A6
          have HT6 := Lib.hid (⟨T6, O66⟩ : _ ∧ _)
          have Hwq : Hid (wd6 q = u ++ k.take k.length) := by
            show wd6 q = _
            have h := lcp_take (nd q).px k
            rw [HC.out] at h
            rw [wq6, h]
          have H6 := Lib.hid (⟨hq6, L6, it6, kl6, fb6⟩ : _ ∧ _ ∧ _ ∧ _ ∧ _)
          clear A6 hq6 L6 it6 wq6 kl6 fb6 O66 T6
          have hK6 : Hid (K = wd6 q) := by show K = wd6 q; rw [Hwq.out, HQ.out.2.1, List.take_length]
          have hM : Hid ((rep || (M K).isNone) = true) := by show _ = true; rw [hK6.out, HA6.out.C.at_ q H6.out.1, H6.out.2.2.1]; simp
          have z1 := (HA6.out.T.H q H6.out.1).c1
          rw [H6.out.2.2.1] at z1
          simp only [itv] at z1
          have z2 := (HA6.out.T.H q H6.out.1).fr 1
          refine wp_loop_rounds 1 ?_
          rw [rounds_succ]
          cases rep <;> go_wp2_with (first | go_step3 | with_reducible refine j3_i0 ?_ | with_reducible refine j3_i1 ?_ | with_reducible refine j3_i2 ?_ | with_reducible refine j1_i0 ?_ | (go_at_call 70; refine HL.out.mono ?_; rintro e w' ⟨rfl, n1, rfl⟩))
          all_goals
            rw [j1_r]
            go_ret
            exact ((put_item HA6 H6.out.2.1 H6.out.1 hK6.out i _ kb 0 hM.out).after HT6.out.1 HT6.out.2).after HT1.out.1 (fun k h => .inl h)
      · have hck : c < k.length := by omega
        have hmc : ¬ m = c := by omega
        have hwq : ∃ u, wd q = u ++ (nd q).px ∧ K = u ++ k := HS.out.1.cut
        obtain ⟨u, hu1, hu2⟩ := hwq
        have hlt := HS.out.1
        have hA0 : (nd q).px.take c ≠ [] ∨ q = t := by
          rcases HS.out.1.hd with h | h
          · exact .inr h
          · left
            intro e
            have h1 := congrArg List.length e
            rw [List.length_take] at h1
            simp only [List.length_nil] at h1
            have h2 : c = 0 := by omega
            rw [← HC.out] at h2
            have h3 := lcp_stop (nd q).px k (by omega) (by rw [h2]; cases hk' : k with
              | nil => rw [hk'] at h; simp at h
              | cons b k' => simp)
            rw [h2] at h3
            apply h3
            rw [← List.head?_eq_getElem?, ← List.head?_eq_getElem?, h]
            unfold Nd.fb
            cases hp : (nd q).px with
            | nil => rw [hp] at hsplit; simp at hsplit
            | cons b k' => simp
        have hmpq : mp = 10 ∨ q = t := HS.out.2.2.2.2.2.imp id (fun h => h.1)
        have HQ := Lib.hid (⟨hu1, hu2, hA0, hmpq⟩ : _ ∧ _ ∧ _ ∧ _)
        clear hu1 hu2 hlt hA0 hmpq
        go_wp2_with (first | go_step3 | with_reducible refine j3_i0 ?_ | with_reducible refine j3_i1 ?_ | with_reducible refine j3_i2 ?_ | with_reducible refine j1_i0 ?_ | (go_at_call 70; refine HL.out.mono ?_; rintro e w' ⟨rfl, n1, rfl⟩))
        refine HJ2.out _ _ ?_
        have A1 := HA.out.dr (n + n1)
        have HS1 : Srch t N nd wd K q k ∧ KS (w.drewN (n + n1)) kb o k := ⟨HS.out.1, HS.out.2.1⟩
        have Hq1 := Hn.out.dr (n + n1)
        have hT1 := Tch.dr (w := w) (T := O) (n + n1)
        have hh1 : (w.drewN (n + n1)).heap = w.heap := rfl
        generalize w.drewN (n + n1) = W at A1 HS1 Hq1 hT1 hh1 ⊢
        have q0 := Hq1.sl (A1.T.np HS1.1.mem)
        have q1 := Hq1.c1
        have q2 := Hq1.c2
        have q3 := Hq1.c3
        have q4 := Hq1.c4
        unfold CL.val at q4
        have hst := fun (W : World) (a : Addr) (md : Mode) => run_store Try.prog W a (itv (nd q).it) md (itv_one _)
        have hqal : ∀ (j : Nat) (o : Obj), (W.alloc o).cell? ⟨q, j, none⟩ = W.cell? ⟨q, j, none⟩ := fun j o => cell_alloc_lt Hq1.obj o 0 j
        have HA1 := Lib.hid A1
        have HS1 := Lib.hid HS1
        have Hq1 := Lib.hid Hq1
        have HT1 := Lib.hid (⟨hT1, hh1⟩ : _ ∧ _)
        clear A1 hT1 hh1
        go_wp2_with (first | go_step3 | with_reducible refine j3_i0 ?_ | with_reducible refine j3_i1 ?_ | with_reducible refine j3_i2 ?_ | with_reducible refine j1_i0 ?_ | (go_at_call 70; refine HL.out.mono ?_; rintro e w' ⟨rfl, n1, rfl⟩))
        clear q0 q1 q2 q3 q4 hst hqal c0 c2
        refine (newTrie_nil _).mono ?_
        rintro e w2 ⟨y, l, a, rfl, hy, hl, ha, hyo, hraw2, hT2⟩
        rw [World.size_alloc] at hy hl ha
        have hqlt : q < W.heap.size := lt_of_heap Hq1.out.obj
        have hyq : ¬ y = q := by omega
        have hyx : ¬ y = W.heap.size := by omega
        have hqx : ¬ q = W.heap.size := by omega
        have hxq : ¬ W.heap.size = q := by omega
        have e2 : w2.heap[q]? = some (nd q).obj := (hT2.keep q (by rw [World.size_alloc]; omega) (fun h => h)).trans (heap_al Hq1.out.obj)
        have e3 : w2.heap[W.heap.size]? = some (nd q).obj := by
          rw [hT2.keep W.heap.size (by rw [World.size_alloc]; omega) (fun h => h), heap_new, Nd.obj, Nd.pv, HA1.out.T.np HS1.out.1.mem]; rfl
        have y0 : w2.cell? ⟨y, 0, none⟩ = some (.slice none 0 0) := by rw [cell_of_block hyo]; rfl
        have y1 : w2.cell? ⟨y, 1, none⟩ = some .nilIface := by rw [cell_of_block hyo]; rfl
        have y2 : w2.cell? ⟨y, 2, none⟩ = some (.int .i64 10) := by rw [cell_of_block hyo]; rfl
        have y3 : w2.cell? ⟨y, 3, none⟩ = some (.int .i64 8) := by rw [cell_of_block hyo]; rfl
        have y4 : w2.cell? ⟨y, 4, none⟩ = some (.iface 102 (ptr l)) := by rw [cell_of_block hyo]; rfl
        have q0 : w2.cell? ⟨q, 0, none⟩ = some (nd q).pv := by rw [cell_of_block e2]; rfl
        have q1 : w2.cell? ⟨q, 1, none⟩ = some (itv (nd q).it) := by rw [cell_of_block e2]; rfl
        have q2 : w2.cell? ⟨q, 2, none⟩ = some (.int .i64 (nd q).mp) := by rw [cell_of_block e2]; rfl
        have q3 : w2.cell? ⟨q, 3, none⟩ = some (.int .i64 (nd q).mc) := by rw [cell_of_block e2]; rfl
        have q4 : w2.cell? ⟨q, 4, none⟩ = some (nd q).cl.val := by rw [cell_of_block e2]; rfl
        have x0 : w2.cell? ⟨W.heap.size, 0, none⟩ = some (.slice (some ⟨(nd q).sb, (nd q).so, none⟩) (nd q).px.length (nd q).sc) := by
          rw [cell_of_block e3, Nd.pv, HA1.out.T.np HS1.out.1.mem]; rfl
        have qf0 := free_of_block e2 0
        have qf1 := free_of_block e2 1
        have qf2 := free_of_block e2 2
        have qf3 := free_of_block e2 3
        have qf4 := free_of_block e2 4
        have xf := free_of_block e3 0
        have HE : Hid (SplitH W w2 N nd q W.heap.size y l a ((nd q).px.take c) ((nd q).px.drop c)) :=
          (⟨HS1.out.1.mem, rfl, (List.take_append_drop _ _).symm, fun h => by have := congrArg List.length h; rw [List.length_drop] at this; simp at this; omega, by omega, by omega, e2, e3, hraw2, ((Tch.refl W _).alloc _).trans hT2 (fun _ _ h => h)⟩ : SplitH W w2 N nd q W.heap.size y l a ((nd q).px.take c) ((nd q).px.drop c))
        have hsc := Hq1.out.le
        have hscc : ¬ (nd q).sc = c := by omega
        have hAc : ((nd q).px.take c).length = c := by rw [List.length_take]; omega
        clear hy hl ha hyo hraw2 hT2 e2 e3
        go_wp2_with (first | go_step3 | with_reducible refine j3_i0 ?_ | with_reducible refine j3_i1 ?_ | with_reducible refine j3_i2 ?_ | with_reducible refine j1_i0 ?_ | (go_at_call 70; refine HL.out.mono ?_; rintro e w' ⟨rfl, n1, rfl⟩))
        rw [splitW_eq]
        have hcomp := split_compact HE.out HA1.out HLF.out
        have hadd := split_add HE.out HA1.out
        rw [hAc] at hcomp hadd
        refine hcomp.mono ?_
        have HADD := Lib.hid hadd
        clear hcomp hadd q0 q1 q2 q3 q4 y0 y1 y2 y3 y4 qf0 qf1 qf2 qf3 qf4 x0 xf
        rintro e w3 ⟨rfl, n2, rfl⟩
        have htop := ((HE.out.top HA1.out).dr n2).c4
        rw [hAc] at htop
        have q4 : ((splitW w2 q W.heap.size l (nd q) c).drewN n2).cell? ⟨q, 4, none⟩ = some (.iface 102 (ptr l)) := htop
        clear htop
        have hmth : ∀ w', (method 270 102 (.pointer (some ⟨l, 0, none⟩)) "loop.example/pub-patriciatries/pub/patricia.add").run Try.prog w' = .ok (112, .pointer (some ⟨l, 0, none⟩)) w' := fun w' => m_add (.sp l a 8 []) w'
        go_wp2_with (first | go_step3 | with_reducible refine j3_i0 ?_ | with_reducible refine j3_i1 ?_ | with_reducible refine j3_i2 ?_ | with_reducible refine j1_i0 ?_ | (go_at_call 70; refine HL.out.mono ?_; rintro e w' ⟨rfl, n1, rfl⟩))
        refine (HADD.out n2).mono ?_
        rintro e w5 ⟨cl', rfl, k1, k2, k3, k4, k5, k6, k7, k8⟩
        have k8' := k8
        rw [← hAc] at k8'
        have v1 := split_q4 HE.out HA1.out k8'
        have z1 : w5.cell? ⟨q, 4, none⟩ = some (.iface 102 (ptr l)) := by rw [cell_of_block v1]; rfl
        have z2 := free_of_block v1 4
        have hsw : (splitW w2 q W.heap.size l (nd q) c).heap.size = w2.heap.size := splitW_size
        have k4' : cl'.l = l ∨ w2.heap.size ≤ cl'.l := by rw [← hsw]; exact k4
        have k5' : cl'.a = a ∨ w2.heap.size ≤ cl'.a := by rw [← hsw]; exact k5
        have hsp := split_put HE.out HA1.out HLF.out HQ.out.2.2.2 HQ.out.1 HQ.out.2.2.1 ⟨k1, k2, k3, k4', k5', k8'⟩
        have HSP := Lib.hid hsp
        clear k1 k2 k3 k4 k5 k6 k7 k8 k8' k4' k5' hsw hsp v1 q4 hmth HADD
        simp only [CL.val]
        go_wp2_with (first | go_step3 | with_reducible refine j3_i0 ?_ | with_reducible refine j3_i1 ?_ | with_reducible refine j3_i2 ?_ | with_reducible refine j1_i0 ?_ | (go_at_call 70; refine HL.out.mono ?_; rintro e w' ⟨rfl, n1, rfl⟩))
        have hsp := HSP.out
        clear HSP z1 z2
        simp only [CL.val] at hsp
        generalize w5.setCell ⟨q, 4, none⟩ (.iface cl'.ty (ptr cl'.l)) = W6 at hsp ⊢
        obtain ⟨O6, rp6, N6, nd6, wd6, A6, hq6, L6, it6, wq6, kl6, fb6, O66, T6⟩ := hsp
        have HA6 := Lib.hid A6
        have HT6 := Lib.hid (⟨T6, O66⟩ : _ ∧ _)
        have Hwq : Hid (wd6 q = u ++ k.take c) := by
          show wd6 q = _
          have h := lcp_take (nd q).px k
          rw [HC.out] at h
          rw [wq6, h]
        have H6 := Lib.hid (⟨hq6, L6, it6, kl6, fb6⟩ : _ ∧ _ ∧ _ ∧ _ ∧ _)
        clear A6 hq6 L6 it6 wq6 kl6 fb6 O66 T6
        have HPT : Hid (PutT W6 t 2 rp6 M O6 N6 nd6 wd6 S sh K (k.drop c) q kb kc (o + c) (m - c)) := by
          have hs := HS.out.2
          have hks := HS.out.1
          have hkb0 : kb < W.heap.size := by
            obtain ⟨C, fr, h1, _⟩ := HK.out.2.2
            have := lt_of_heap h1
            rw [HT1.out.2]
            exact this
          have hkb6 : W6.heap[kb]? = w.heap[kb]? := by rw [HT6.out.1.keep kb hkb0 HKB.out, HT1.out.2]
          have hKA : KeyAt W6 kb kc K := by
            obtain ⟨a1, a2, C, fr, a3, a4, a5⟩ := HK.out
            refine ⟨fun j hj => ?_, a2, C, fr, hkb6.trans a3, a4, fun j hj => by rw [frozen_same hkb6]; exact a5 j hj⟩
            rw [World.cell?_of_block hkb6]
            exact a1 j hj
          refine (⟨HA6.out, H6.out.1, H6.out.2.1, .inr (by rw [H6.out.2.2.2.1]; omega), hKA, fun h => by rcases HT6.out.2 kb h with h | h; exact HKB.out h; omega, by rw [Hwq.out, HQ.out.2.1, List.append_assoc, List.take_append_drop], fun h => ?_, hk1, by rw [List.length_drop]; omega, by omega, by rw [List.length_drop]; omega, fun c' hc' => ?_⟩ : PutT W6 t 2 rp6 M O6 N6 nd6 wd6 S sh K (k.drop c) q kb kc (o + c) (m - c))
          · have := congrArg List.length h
            rw [List.length_drop] at this
            simp at this
            omega
          · rw [H6.out.2.2.2.2 c' hc']
            have hst := lcp_stop (nd q).px k (by rw [HC.out]; exact hsplit) (by rw [HC.out]; exact hck)
            rw [HC.out] at hst
            intro e
            apply hst
            have f : ∀ (l : List UInt8), c < l.length → l[c]? = some ((l.drop c).headD 0) := fun l hl => by
              rw [List.getElem?_eq_getElem hl, List.drop_eq_getElem_cons hl]; rfl
            rw [f _ hsplit, f _ hck, e]
        have hnz2 : (((k.length - c : Nat) : Int) != 0) = true := by rw [bne_iff_ne]; omega
        refine wp_loop_rounds 1 ?_
        rw [rounds_succ]
        go_wp2_with (first | go_step3 | with_reducible refine j3_i0 ?_ | with_reducible refine j3_i1 ?_ | with_reducible refine j3_i2 ?_ | with_reducible refine j1_i0 ?_ | (go_at_call 70; refine HL.out.mono ?_; rintro e w' ⟨rfl, n1, rfl⟩))
        have hq4 := (HPT.out.A.T.H q HPT.out.hq).obj
        have hqlt := lt_of_heap hq4
        have htlt := lt_of_heap (HPT.out.A.T.H t HPT.out.A.T.I.root_mem).obj
        refine (newTrie_nil _).mono ?_
        rintro e w2 ⟨y, l, a, rfl, hy, hl, ha, hyo, hraw2, hT2⟩
        have hy' : W6.heap.size ≤ y := hy
        have hyq : ¬ y = q := by omega
        have hyt : ¬ y = t := by omega
        have c2' : w2.cell? ⟨t, 2, none⟩ = some (.int .i64 10) := by
          rw [cell_of_block ((hT2.keep t htlt (fun h => h)).trans (HPT.out.A.T.H t HPT.out.A.T.I.root_mem).obj)]
          show some (Value.int .i64 (nd6 t).mp) = _
          rw [HPT.out.A.mp]
        have q4' : w2.cell? ⟨q, 4, none⟩ = some (.iface (nd6 q).cl.ty (ptr (nd6 q).cl.l)) := by rw [cell_of_block ((hT2.keep q hqlt (fun h => h)).trans hq4)]; rfl
        have y0 : w2.cell? ⟨y, 0, none⟩ = some (.slice none 0 0) := by rw [cell_of_block hyo]; rfl
        have y1 := free_of_block hyo 0
        have m3 := m_add (nd6 q).cl
        have m4 := f_add (nd6 q).cl
        have HY := Lib.hid (⟨hy, hl, ha, hyo, hraw2, hT2⟩ : _ ∧ _ ∧ _ ∧ _ ∧ _ ∧ _)
        have hkk : ((k.length - c : Nat) : Int) ≤ 10 := by omega
        have hdl : (k.drop c).length = k.length - c := List.length_drop
        clear hy hl ha hyo hraw2 hT2 hq4
        go_wp2_with (first | go_step3 | with_reducible refine j3_i0 ?_ | with_reducible refine j3_i1 ?_ | with_reducible refine j3_i2 ?_ | with_reducible refine j1_i0 ?_ | (go_at_call 70; refine HL.out.mono ?_; rintro e w' ⟨rfl, n1, rfl⟩))
        refine (put_add_call HPT.out.A HPT.out.hq HY.out.1 HY.out.2.2.2.1 HY.out.2.2.2.2.2 (by rfl) (by omega) HPT.out.byte HPT.out.no).mono ?_
        rintro e w4 ⟨cl', rfl, k1, k2, k3, k4, k5, k6, k7, k8⟩
        have hcl' := put_add_cells HPT.out.A HPT.out.hq (w4 := w4) (r := k.drop c) HY.out.1 HY.out.2.2.2.1 HY.out.2.2.2.2.2 (by rw [List.length_drop]; exact k8) (by rfl)
        obtain ⟨v1, v2⟩ := hcl'
        have z1 : w4.cell? ⟨q, 4, none⟩ = some (.iface (nd6 q).cl.ty (ptr (nd6 q).cl.l)) := by rw [cell_of_block v1]; rfl
        have z2 := free_of_block v1 4
        have z3 : w4.cell? ⟨y, 1, none⟩ = some .nilIface := by rw [cell_of_block v2]; rfl
        have z4 := free_of_block v2 1
        have HP := Lib.hid (⟨k1, k2, k3, k4, k5, k8⟩ : _ ∧ _ ∧ _ ∧ _ ∧ _ ∧ _)
        clear k1 k2 k3 k4 k5 k6 k7 k8 v1 v2 y0 y1 q4' c2' m3 m4
        simp only [CL.val]
        cases rep <;> go_wp2_with (first | go_step3 | with_reducible refine j3_i0 ?_ | with_reducible refine j3_i1 ?_ | with_reducible refine j3_i2 ?_ | with_reducible refine j1_i0 ?_ | (go_at_call 70; refine HL.out.mono ?_; rintro e w' ⟨rfl, n1, rfl⟩))
        all_goals
          rw [Exit.noGoto_ret]
          go_ret
          exact ((put_put HPT i _ (by rfl) (by exact Tch.refl _ _) HY hdl.symm HP).after HT6.out.1 HT6.out.2).after HT1.out.1 (fun k h => .inl h)
    · have hcp : c = (nd q).px.length := by omega
      have hmp0 : mp = 10 := by
        rcases HS.out.2.2.2.2.2 with h | h
        · exact h
        · have := HC.out; omega
      subst hmp0
      have HCP := Lib.hid hcp
      clear hcp
      have g2 : ¬ (c : Int) < ((nd q).px.length : Int) := by omega
      by_cases h1 : c = k.length
      · -- the key ends at this node
        subst h1
        have hfull := HS.out.1.full (HC.out.trans HCP.out)
        rw [HC.out, List.drop_length, List.append_nil] at hfull
        have HF := Lib.hid hfull
        have q1 := Hn.out.c1
        clear hfull m1 m2 q4
        cases hit : (nd q).it with
        | none =>
          rw [hit] at q1
          simp only [itv] at q1
          have hM : Hid ((rep || (M K).isNone) = true) := by show _ = true; rw [HF.out, HA.out.C.at_ q HS.out.1.mem, hit]; simp
          clear hit
          have hfr := Hn.out.fr 1
          cases rep <;> by_cases h2 : m = k.length
          all_goals
            try subst h2
            go_wp2_with (first | go_step3 | with_reducible refine j3_i0 ?_ | with_reducible refine j3_i1 ?_ | with_reducible refine j3_i2 ?_ | with_reducible refine j1_i0 ?_ | (go_at_call 70; refine HL.out.mono ?_; rintro e w' ⟨rfl, n1, rfl⟩))
            rw [Exit.noGoto_ret]
            go_ret
            exact put_item HA (HLF.out.x _) HS.out.1.mem HF.out i _ kb _ hM.out
        | some v =>
          rw [hit] at q1
          simp only [itv] at q1
          have hM0 : Hid (M K ≠ none) := by show _ ≠ _; rw [HF.out, HA.out.C.at_ q HS.out.1.mem, hit]; simp
          clear hit
          have hfr := Hn.out.fr 1
          cases rep
          · by_cases h2 : m = k.length
            all_goals
              try subst h2
              go_wp2_with (first | go_step3 | with_reducible refine j3_i0 ?_ | with_reducible refine j3_i1 ?_ | with_reducible refine j3_i2 ?_ | with_reducible refine j1_i0 ?_ | (go_at_call 70; refine HL.out.mono ?_; rintro e w' ⟨rfl, n1, rfl⟩))
              rw [Exit.noGoto_ret]
              go_ret
              exact put_keep HA HLF i kb _ hM0.out
          · by_cases h2 : m = k.length
            all_goals
              try subst h2
              go_wp2_with (first | go_step3 | with_reducible refine j3_i0 ?_ | with_reducible refine j3_i1 ?_ | with_reducible refine j3_i2 ?_ | with_reducible refine j1_i0 ?_ | (go_at_call 70; refine HL.out.mono ?_; rintro e w' ⟨rfl, n1, rfl⟩))
              rw [Exit.noGoto_ret]
              go_ret
              exact put_item HA (HLF.out.x _) HS.out.1.mem HF.out i _ kb _ rfl
      · have hck : c < k.length := by omega
        have hmc : ¬ m = c := by omega
        obtain ⟨b, hb⟩ : ∃ b, (k.drop c).head? = some b := by
          cases hd : k.drop c with
          | nil => have := congrArg List.length hd; rw [List.length_drop] at this; simp at this; omega
          | cons b l => exact ⟨b, rfl⟩
        have hnz : (((k.length - c : Nat) : Int) == 0) = false := by rw [beq_eq_false_iff_ne]; omega
        have hb0 := (HS.out.2.1.drop c).head hb
        have hpos : 0 < k.length - c := by omega
        have HB := Lib.hid hb
        have hfull : lcp (nd q).px k = (nd q).px.length := by rw [HC.out, HCP.out]
        have HFU := Lib.hid hfull
        clear hb hfull
        obtain ⟨x, hx⟩ : ∃ x, (nd q).cl.child (fun c => (nd c).fb) b = x := ⟨_, rfl⟩
        have hnx := next_q w (fun c => (nd c).fb) (nd q).cl b Hn.out.raw (HA.out.T.I.kb HA.out.T.H HS.out.1.mem)
        rw [hx] at hnx
        have HX := Lib.hid hx
        have HNX := Lib.hid hnx
        clear hx hnx
        cases x with
        | none =>
          have hno := find_none HX.out
          have HNO := Lib.hid hno
          clear hno
          go_wp2_with (first | go_step3 | with_reducible refine j3_i0 ?_ | with_reducible refine j3_i1 ?_ | with_reducible refine j3_i2 ?_ | with_reducible refine j1_i0 ?_ | (go_at_call 70; refine HL.out.mono ?_; rintro e w' ⟨rfl, n1, rfl⟩))
          go_quiet (exact qshift HNX.out _ _)
          have hnz2 : (((k.length - c : Nat) : Int) != 0) = true := by rw [bne_iff_ne]; omega
          go_wp2_with (first | go_step3 | with_reducible refine j3_i0 ?_ | with_reducible refine j3_i1 ?_ | with_reducible refine j3_i2 ?_ | with_reducible refine j1_i0 ?_ | (go_at_call 70; refine HL.out.mono ?_; rintro e w' ⟨rfl, n1, rfl⟩))
          refine wp_loop_rounds 1 ?_
          rw [rounds_succ]
          go_wp2_with (first | go_step3 | with_reducible refine j3_i0 ?_ | with_reducible refine j3_i1 ?_ | with_reducible refine j3_i2 ?_ | with_reducible refine j1_i0 ?_ | (go_at_call 70; refine HL.out.mono ?_; rintro e w' ⟨rfl, n1, rfl⟩))
          have hq4 := Hn.out.obj
          have hqN := HS.out.1.mem
          have hqlt := HA.out.lt _ (HA.out.own q hqN).1
          have htlt := HA.out.lt _ (HA.out.own t HA.out.T.I.root_mem).1
          clear m1 m2 q0 q4 c0 c2
          have HPT : Hid (PutT w t 2 rp M O N nd wd S sh K (k.drop c) q kb kc (o + c) (m - c)) := by
            have hK2 := HS.out.1.full HFU.out
            rw [HC.out] at hK2
            have hs := HS.out.2
            have e : (k.drop c).headD 0 = b := by have := HB.out; cases h : k.drop c with
              | nil => rw [h] at this; simp at this
              | cons x l => rw [h] at this; simpa using this
            exact (⟨HA.out, HS.out.1.mem, HLF.out.x q, (HLF.out q HS.out.1.mem).imp id (fun h => by omega), HK.out, HKB.out, hK2, fun h => by rw [h] at e; have := congrArg List.length h; rw [List.length_drop] at this; simp at this; omega, hk1, by rw [List.length_drop]; omega, by omega, by rw [List.length_drop]; omega, fun c hc => by rw [e]; exact HNO.out c hc⟩ : PutT w t 2 rp M O N nd wd S sh K (k.drop c) q kb kc (o + c) (m - c))
          have hdl : (k.drop c).length = k.length - c := List.length_drop
          have hb0 := HPT.out.byte
          refine (newTrie_nil _).mono ?_
          rintro e w2 ⟨y, l, a, rfl, hy, hl, ha, hyo, hraw2, hT2⟩
          have hy' : w.heap.size ≤ y := hy
          have hyq : ¬ y = q := by omega
          have hyt : ¬ y = t := by omega
          have c2' : w2.cell? ⟨t, 2, none⟩ = some (.int .i64 10) := by
            rw [cell_of_block ((hT2.keep t htlt (fun h => h)).trans (HA.out.T.H t HA.out.T.I.root_mem).obj)]
            show some (Value.int .i64 (nd t).mp) = _
            rw [HA.out.mp]
          have q4' : w2.cell? ⟨q, 4, none⟩ = some (.iface (nd q).cl.ty (ptr (nd q).cl.l)) := by rw [cell_of_block ((hT2.keep q hqlt (fun h => h)).trans hq4)]; rfl
          have y0 : w2.cell? ⟨y, 0, none⟩ = some (.slice none 0 0) := by rw [cell_of_block hyo]; rfl
          have y1 := free_of_block hyo 0
          have m3 := m_add (nd q).cl
          have m4 := f_add (nd q).cl
          have HY := Lib.hid (⟨hy, hl, ha, hyo, hraw2, hT2⟩ : _ ∧ _ ∧ _ ∧ _ ∧ _ ∧ _)
          have hkk : ((k.length - c : Nat) : Int) ≤ 10 := by omega
          clear hy hl ha hyo hraw2 hT2 hq4
          go_wp2_with (first | go_step3 | with_reducible refine j3_i0 ?_ | with_reducible refine j3_i1 ?_ | with_reducible refine j3_i2 ?_ | with_reducible refine j1_i0 ?_ | (go_at_call 70; refine HL.out.mono ?_; rintro e w' ⟨rfl, n1, rfl⟩))
          refine (put_add_call HA.out hqN HY.out.1 HY.out.2.2.2.1 HY.out.2.2.2.2.2 (by rfl) hpos hb0 HPT.out.no).mono ?_
          rintro e w4 ⟨cl', rfl, k1, k2, k3, k4, k5, k6, k7, k8⟩
          have hcl' := put_add_cells HA.out hqN (w4 := w4) (r := k.drop c) HY.out.1 HY.out.2.2.2.1 HY.out.2.2.2.2.2 (by rw [List.length_drop]; exact k8) (by rfl)
          obtain ⟨v1, v2⟩ := hcl'
          have z1 : w4.cell? ⟨q, 4, none⟩ = some (.iface (nd q).cl.ty (ptr (nd q).cl.l)) := by rw [cell_of_block v1]; rfl
          have z2 := free_of_block v1 4
          have z3 : w4.cell? ⟨y, 1, none⟩ = some .nilIface := by rw [cell_of_block v2]; rfl
          have z4 := free_of_block v2 1
          have HP := Lib.hid (⟨k1, k2, k3, k4, k5, k8⟩ : _ ∧ _ ∧ _ ∧ _ ∧ _ ∧ _)
          clear k1 k2 k3 k4 k5 k6 k7 k8 v1 v2 y0 y1 q4' c2' m3 m4
          simp only [CL.val]
          cases rep <;> go_wp2_with (first | go_step3 | with_reducible refine j3_i0 ?_ | with_reducible refine j3_i1 ?_ | with_reducible refine j3_i2 ?_ | with_reducible refine j1_i0 ?_ | (go_at_call 70; refine HL.out.mono ?_; rintro e w' ⟨rfl, n1, rfl⟩))
          all_goals
            rw [Exit.noGoto_ret]
            go_ret
            exact put_put HPT i _ (by rfl) (by exact Tch.dr _) HY hdl.symm HP
        | some x =>
          have hxk := find_some HX.out
          have hst := HS.out.1.step HA.out.T.I HFU.out (by rw [HC.out]; exact HB.out) hxk.1 hxk.2
          rw [HC.out] at hst
          have hxr := (HA.out.T.I.kid q HS.out.1.mem x hxk.1).2.1
          have HST : Hid (PutI t N nd wd w 10 kb kc K x (k.drop c) (o + c) (m - c)) :=
            (⟨hst, HS.out.2.1.drop c, by rw [List.length_drop]; have := HS.out.2.2.1; omega, by have := HS.out.2.2.2.1; omega, by rw [List.length_drop]; omega, .inl rfl⟩ : PutI t N nd wd w 10 kb kc K x (k.drop c) (o + c) (m - c))
          have HLT := Lib.hid (step_less HA.out.T.I HS.out.1.mem hxr HCP.out hck)
          clear hxk hst hxr
          go_wp2_with (first | go_step3 | with_reducible refine j3_i0 ?_ | with_reducible refine j3_i1 ?_ | with_reducible refine j3_i2 ?_ | with_reducible refine j1_i0 ?_ | (go_at_call 70; refine HL.out.mono ?_; rintro e w' ⟨rfl, n1, rfl⟩))
          go_quiet (exact qshift HNX.out _ _)
          go_wp2_with (first | go_step3 | with_reducible refine j3_i0 ?_ | with_reducible refine j3_i1 ?_ | with_reducible refine j3_i2 ?_ | with_reducible refine j1_i0 ?_ | (go_at_call 70; refine HL.out.mono ?_; rintro e w' ⟨rfl, n1, rfl⟩))
          go_roundw
          case rel => exact ⟨k.drop c, o + c, m - c, x, _, by rw [List.length_drop], rfl, rfl, by rw [List.length_drop]; omega, by rw [List.length_drop]; omega, HST⟩
          case measure => exact HLT.out

end Go.Proofs.Ytmdbnjepajifpaa
