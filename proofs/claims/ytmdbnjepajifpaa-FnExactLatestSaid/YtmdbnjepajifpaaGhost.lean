/- The shape of a trie, apart from memory: nodes, the word that each stands for, and what follows for any two of them. -/
import Derived.Test.YtmdbnjepajifpaaKids
namespace Go.Proofs.Ytmdbnjepajifpaa
open Go.RowKit

/-- A node: its part of the key (the bytes' block, where in it, the capacity; or nil), its item, its two numbers, its children. -/
structure Nd where
  np : Bool
  sb : Nat
  so : Nat
  sc : Nat
  px : List UInt8
  it : Option Int
  mp : Int
  mc : Int
  cl : CL

def Nd.fb (d : Nd) : UInt8 := d.px.headD 0
def itv : Option Int → Value
  | none => .nilIface
  | some n => .iface 3 (.int .i64 n)
def Nd.pv (d : Nd) : Value := if d.np then .slice none 0 0 else .slice (some ⟨d.sb, d.so, none⟩) d.px.length d.sc
def Nd.obj (d : Nd) : Obj := .cells #[d.pv, itv d.it, .int .i64 d.mp, .int .i64 d.mc, d.cl.val] 82 (0, 0)

/-- The shape: N the nodes, wd the word of each; S, sh: of each block of bytes the word of which it holds a part, and from which place on. -/
structure Inv (root : Nat) (N : Nat → Prop) (nd : Nat → Nd) (wd : Nat → List UInt8) (S : Nat → List UInt8) (sh : Nat → Nat) : Prop where
  root_mem : N root
  root_wd : wd root = (nd root).px
  np : ∀ p, N p → p ≠ root → (nd p).np = false
  kid : ∀ p, N p → ∀ c, c ∈ (nd p).cl.kids → N c ∧ c ≠ root ∧ wd c = wd p ++ (nd c).px ∧ (nd c).px ≠ []
  ne : ∀ p, N p → ∀ c d, c ∈ (nd p).cl.kids → d ∈ (nd p).cl.kids → (nd c).fb = (nd d).fb → c = d
  nodup : ∀ p, N p → (nd p).cl.kids.Nodup
  placed : ∀ p, N p → (nd p).cl.placed (fun c => (nd c).fb)
  par : ∀ c, N c → c ≠ root → ∃ p, N p ∧ c ∈ (nd p).cl.kids
  sepl : ∀ p q, N p → N q → (nd p).cl.l = (nd q).cl.l → p = q
  sepa : ∀ p q, N p → N q → (nd p).cl.a = (nd q).cl.a → p = q
  len : ∀ p, N p → (wd p).length ≤ 10
  chain : ∀ p, N p → (nd p).np = false → wd p <+: S (nd p).sb ∧ (nd p).so + sh (nd p).sb + (nd p).px.length = (wd p).length

section
variable {root : Nat} {N : Nat → Prop} {nd : Nat → Nd} {wd : Nat → List UInt8} {S : Nat → List UInt8} {sh : Nat → Nat}

theorem Inv.kid_longer (I : Inv root N nd wd S sh) {p c : Nat} (hp : N p) (hc : c ∈ (nd p).cl.kids) : (wd p).length < (wd c).length := by
  obtain ⟨_, _, h1, h2⟩ := I.kid p hp c hc
  have h3 : 0 < (nd c).px.length := List.length_pos_iff.2 h2
  rw [h1, List.length_append]
  omega

theorem Inv.kid_pre (I : Inv root N nd wd S sh) {p c : Nat} (hp : N p) (hc : c ∈ (nd p).cl.kids) : wd p <+: wd c := by
  rw [(I.kid p hp c hc).2.2.1]; exact List.prefix_append _ _

/-- The root's word begins every word. -/
theorem Inv.root_pre (I : Inv root N nd wd S sh) : ∀ (n : Nat) (r : Nat), (wd r).length ≤ n → N r → wd root <+: wd r := by
  intro n
  induction n with
  | zero =>
    intro r hn hr
    by_cases h : r = root
    · subst h; exact List.prefix_refl _
    · obtain ⟨p, hp, hc⟩ := I.par r hr h
      have := I.kid_longer hp hc
      omega
  | succ n ih =>
    intro r hn hr
    by_cases h : r = root
    · subst h; exact List.prefix_refl _
    · obtain ⟨p, hp, hc⟩ := I.par r hr h
      have := I.kid_longer hp hc
      exact (ih p (by omega) hp).trans (I.kid_pre hp hc)

theorem Inv.root_le (I : Inv root N nd wd S sh) {r : Nat} (hr : N r) : wd root <+: wd r := I.root_pre _ r (Nat.le_refl _) hr

/-- The byte of a word behind its parent's word is the child's first byte. -/
theorem Inv.byte_at (I : Inv root N nd wd S sh) {p c : Nat} (hp : N p) (hc : c ∈ (nd p).cl.kids) {u : List UInt8} (h : wd c <+: u) : u[(wd p).length]? = some (nd c).fb := by
  obtain ⟨_, _, h1, h2⟩ := I.kid p hp c hc
  obtain ⟨t, rfl⟩ := h
  rw [h1]
  unfold Nd.fb
  cases hx : (nd c).px with
  | nil => exact absurd hx h2
  | cons x l => simp

theorem Inv.same_kid (I : Inv root N nd wd S sh) {p c d : Nat} (hp : N p) (hc : c ∈ (nd p).cl.kids) (hd : d ∈ (nd p).cl.kids) {u : List UInt8} (h1 : wd c <+: u) (h2 : wd d <+: u) : c = d := by
  have a := I.byte_at hp hc h1
  have b := I.byte_at hp hd h2
  rw [a] at b
  exact I.ne p hp c d hc hd (by simpa using b)

theorem pre_total {α : Type} {a b u : List α} (h1 : a <+: u) (h2 : b <+: u) : a <+: b ∨ b <+: a := by
  rcases Nat.le_total a.length b.length with h | h
  · exact .inl (List.prefix_of_prefix_length_le h1 h2 h)
  · exact .inr (List.prefix_of_prefix_length_le h2 h1 h)

/-- What stands beneath a node's word is the node or stands beneath one of its children. -/
theorem Inv.desc_aux (I : Inv root N nd wd S sh) : ∀ (n : Nat) (q r : Nat), (wd q).length + (wd r).length ≤ n → N q → N r → wd q <+: wd r → r = q ∨ ∃ c, c ∈ (nd q).cl.kids ∧ wd c <+: wd r := by
  intro n
  induction n with
  | zero =>
    intro q r hn hq hr hpre
    have pos : ∀ x, N x → x ≠ root → 0 < (wd x).length := fun x hx hne => by
      obtain ⟨p, hp, hc⟩ := I.par x hx hne
      have := I.kid_longer hp hc
      omega
    left
    by_cases h1 : q = root
    · by_cases h2 : r = root
      · rw [h1, h2]
      · have := pos r hr h2; omega
    · have := pos q hq h1; omega
  | succ n ih =>
    intro q r hn hq hr hpre
    by_cases hrr : r = root
    · by_cases hqr : q = root
      · left; rw [hrr, hqr]
      · exfalso
        obtain ⟨p, hp, hc⟩ := I.par q hq hqr
        have h1 := I.kid_longer hp hc
        have h2 := (I.root_le hp).length_le
        have h3 := hpre.length_le
        rw [hrr] at h3
        omega
    · obtain ⟨P, hP, hcP⟩ := I.par r hr hrr
      have hlP := I.kid_longer hP hcP
      have hpP := I.kid_pre hP hcP
      rcases Nat.lt_or_ge (wd P).length (wd q).length with hlt | hge
      · -- P is shorter than q
        have hPq : wd P <+: wd q := List.prefix_of_prefix_length_le hpP hpre (by omega)
        rcases ih P q (by omega) hP hq hPq with h | ⟨c, hc, hcq⟩
        · rw [h] at hlt; omega
        · have hcr : c = r := I.same_kid hP hc hcP (hcq.trans hpre) (List.prefix_refl _)
          subst hcr
          -- q and r have one word
          have hlen : (wd q).length = (wd c).length := Nat.le_antisymm hpre.length_le hcq.length_le
          have heq : wd q = wd c := hpre.eq_of_length hlen
          left
          have hqr : q ≠ root := fun h => by
            have h2 := (I.root_le hP).length_le
            rw [h] at hlt; omega
          obtain ⟨Q, hQ, hcQ⟩ := I.par q hq hqr
          have hlQ := I.kid_longer hQ hcQ
          have hpQ := I.kid_pre hQ hcQ
          rcases Nat.lt_trichotomy (wd P).length (wd Q).length with h | h | h
          · have hPQ : wd P <+: wd Q := List.prefix_of_prefix_length_le hPq hpQ (by omega)
            rcases ih P Q (by omega) hP hQ hPQ with h' | ⟨c3, hc3, h3⟩
            · rw [h'] at h; omega
            · have : c3 = c := I.same_kid hP hc3 hcP (h3.trans (hpQ.trans hpre)) (List.prefix_refl _)
              subst this
              have := h3.length_le
              omega
          · have hPQ : wd P <+: wd Q := List.prefix_of_prefix_length_le hPq hpQ (by omega)
            rcases ih P Q (by omega) hP hQ hPQ with h' | ⟨c3, hc3, h3⟩
            · subst h'
              exact I.same_kid hP hcP hcQ (List.prefix_refl _) (by rw [heq]; exact List.prefix_refl _)
            · have := h3.length_le
              have := I.kid_longer hP hc3
              omega
          · have hQP : wd Q <+: wd P := List.prefix_of_prefix_length_le hpQ hPq (by omega)
            rcases ih Q P (by omega) hQ hP hQP with h' | ⟨c3, hc3, h3⟩
            · rw [h'] at h; omega
            · have : c3 = q := I.same_kid hQ hc3 hcQ (h3.trans hPq) (List.prefix_refl _)
              subst this
              have := h3.length_le
              omega
      · have hqP : wd q <+: wd P := List.prefix_of_prefix_length_le hpre hpP hge
        rcases ih q P (by omega) hq hP hqP with h | ⟨c, hc, h⟩
        · subst h; exact .inr ⟨r, hcP, List.prefix_refl _⟩
        · exact .inr ⟨c, hc, h.trans hpP⟩

theorem Inv.desc (I : Inv root N nd wd S sh) {q r : Nat} (hq : N q) (hr : N r) (h : wd q <+: wd r) : r = q ∨ ∃ c, c ∈ (nd q).cl.kids ∧ wd c <+: wd r :=
  I.desc_aux _ q r (Nat.le_refl _) hq hr h

theorem Inv.inj (I : Inv root N nd wd S sh) {q r : Nat} (hq : N q) (hr : N r) (h : wd q = wd r) : r = q := by
  rcases I.desc hq hr (by rw [h]; exact List.prefix_refl _) with h' | ⟨c, hc, h'⟩
  · exact h'
  · exfalso
    have := I.kid_longer hq hc
    have := h'.length_le
    rw [h] at *
    omega

/-- A child has one parent. -/
theorem Inv.par_unique (I : Inv root N nd wd S sh) {p q c : Nat} (hp : N p) (hq : N q) (hcp : c ∈ (nd p).cl.kids) (hcq : c ∈ (nd q).cl.kids) : p = q := by
  obtain ⟨hc, _, h1, _⟩ := I.kid p hp c hcp
  obtain ⟨_, _, h2, _⟩ := I.kid q hq c hcq
  have : wd p = wd q := by
    rw [h1] at h2
    exact List.append_cancel_right h2
  exact I.inj hq hp this.symm

end

end Go.Proofs.Ytmdbnjepajifpaa
