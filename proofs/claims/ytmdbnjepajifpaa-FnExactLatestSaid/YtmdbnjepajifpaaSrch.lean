/- The search for a key, apart from memory: what is known at each node on the way, and at each way out. -/
import Derived.Test.YtmdbnjepajifpaaHeap
namespace Go.Proofs.Ytmdbnjepajifpaa
open Go.RowKit

/-- The search for K has come to node q, with k left. -/
structure Srch (root : Nat) (N : Nat → Prop) (nd : Nat → Nd) (wd : Nat → List UInt8) (K : List UInt8) (q : Nat) (k : List UInt8) : Prop where
  mem : N q
  cut : ∃ u, wd q = u ++ (nd q).px ∧ K = u ++ k
  all : ∀ r, N r → K <+: wd r → wd q <+: wd r
  hd : q = root ∨ k.head? = some (nd q).fb

section
variable {root : Nat} {N : Nat → Prop} {nd : Nat → Nd} {wd : Nat → List UInt8} {S : Nat → List UInt8} {sh : Nat → Nat} {K k : List UInt8} {q : Nat}

theorem Srch.start (I : Inv root N nd wd S sh) (K : List UInt8) : Srch root N nd wd K root K :=
  ⟨I.root_mem, ⟨[], by simp [I.root_wd], rfl⟩, fun _ hr _ => I.root_le hr, .inl rfl⟩

theorem Srch.len (h : Srch root N nd wd K q k) : k.length ≤ K.length := by
  obtain ⟨u, _, h2⟩ := h.cut
  rw [h2]; simp

/-- The whole part of the key matches: the word is the key's beginning. -/
theorem Srch.full (h : Srch root N nd wd K q k) (hc : lcp (nd q).px k = (nd q).px.length) : K = wd q ++ k.drop (lcp (nd q).px k) := by
  obtain ⟨u, h1, h2⟩ := h.cut
  have h3 := lcp_take (nd q).px k
  rw [hc, List.take_length] at h3
  rw [h1, h2, hc, List.append_assoc]
  congr 1
  conv => lhs; rw [← List.take_append_drop (nd q).px.length k]
  rw [← h3]

/-- Nothing is left: the key begins the node's word. -/
theorem Srch.none_left (h : Srch root N nd wd K q k) (hk : k.drop (lcp (nd q).px k) = []) : wd q = K ++ (nd q).px.drop (lcp (nd q).px k) := by
  obtain ⟨u, h1, h2⟩ := h.cut
  have h3 := lcp_take (nd q).px k
  have h4 : k.take (lcp (nd q).px k) = k := List.take_of_length_le (by simpa using hk)
  rw [h4] at h3
  rw [h1, h2, List.append_assoc]
  congr 1
  conv => lhs; rw [← List.take_append_drop (lcp (nd q).px k) (nd q).px]
  rw [h3]

/-- The two part: no word begins with the key. -/
theorem Srch.part (h : Srch root N nd wd K q k) (hc : lcp (nd q).px k < (nd q).px.length) (hk : k.drop (lcp (nd q).px k) ≠ []) : ∀ r, N r → ¬ K <+: wd r := by
  intro r hr hK
  obtain ⟨u, h1, h2⟩ := h.cut
  have hq := h.all r hr hK
  have hlt : lcp (nd q).px k < k.length := by
    rcases Nat.lt_or_ge (lcp (nd q).px k) k.length with h' | h'
    · exact h'
    · exact absurd (List.drop_eq_nil_of_le h') hk
  have hs := lcp_stop (nd q).px k hc hlt
  apply hs
  obtain ⟨t1, ht1⟩ := hK
  obtain ⟨t2, ht2⟩ := hq
  have : (u ++ k ++ t1)[u.length + lcp (nd q).px k]? = (u ++ (nd q).px ++ t2)[u.length + lcp (nd q).px k]? := by
    rw [← h2, ht1, ← h1, ht2]
  rw [List.append_assoc, List.append_assoc, List.getElem?_append_right (Nat.le_add_right _ _), List.getElem?_append_right (Nat.le_add_right _ _), Nat.add_sub_cancel_left,
    List.getElem?_append_left hlt, List.getElem?_append_left hc] at this
  exact this.symm

theorem find_none {l : List Nat} {fb : Nat → UInt8} {b : UInt8} (h : l.find? (fun c => fb c == b) = none) : ∀ c, c ∈ l → fb c ≠ b := by
  intro c hc he
  rw [List.find?_eq_none] at h
  exact h c hc (by simp [he])

theorem find_some {l : List Nat} {fb : Nat → UInt8} {b : UInt8} {c : Nat} (h : l.find? (fun c => fb c == b) = some c) : c ∈ l ∧ fb c = b :=
  ⟨List.mem_of_find?_eq_some h, by simpa using List.find?_some h⟩

/-- The next byte of the key, where the node's part has matched. -/
theorem Srch.next_byte (h : Srch root N nd wd K q k) (hc : lcp (nd q).px k = (nd q).px.length) {b : UInt8} (hb : (k.drop (lcp (nd q).px k)).head? = some b) : K[(wd q).length]? = some b := by
  have h1 := h.full hc
  rw [h1]
  rw [List.getElem?_append_right (Nat.le_refl _), Nat.sub_self]
  rw [← List.head?_eq_getElem?]
  exact hb

/-- No child goes on: no word begins with the key. -/
theorem Srch.no_child (I : Inv root N nd wd S sh) (h : Srch root N nd wd K q k) (hc : lcp (nd q).px k = (nd q).px.length) {b : UInt8} (hb : (k.drop (lcp (nd q).px k)).head? = some b)
    (hn : ∀ c, c ∈ (nd q).cl.kids → (nd c).fb ≠ b) : ∀ r, N r → ¬ K <+: wd r := by
  intro r hr hK
  have h1 := h.full hc
  have hq := h.all r hr hK
  have hbyte := h.next_byte hc hb
  rcases I.desc h.mem hr hq with rfl | ⟨c, hcm, hcr⟩
  · have := hK.length_le
    rw [h1, List.length_append] at this
    have hz : (k.drop (lcp (nd r).px k)).length = 0 := by omega
    rw [List.length_eq_zero_iff.1 hz] at hb
    simp at hb
  · have h2 := I.byte_at h.mem hcm hcr
    obtain ⟨t, ht⟩ := hK
    have h3 : (wd r)[(wd q).length]? = some b := by
      rw [← ht, List.getElem?_append_left, hbyte]
      have := (List.getElem?_eq_some_iff.1 hbyte).1
      exact this
    rw [h2] at h3
    exact hn c hcm (by simpa using h3)

/-- A child goes on: the search comes to it. -/
theorem Srch.step (I : Inv root N nd wd S sh) (h : Srch root N nd wd K q k) (hc : lcp (nd q).px k = (nd q).px.length) {b : UInt8} (hb : (k.drop (lcp (nd q).px k)).head? = some b)
    {c : Nat} (hcm : c ∈ (nd q).cl.kids) (hcb : (nd c).fb = b) : Srch root N nd wd K c (k.drop (lcp (nd q).px k)) := by
  have h1 := h.full hc
  obtain ⟨hN, hne, hw, hpx⟩ := I.kid q h.mem c hcm
  have hbyte := h.next_byte hc hb
  refine ⟨hN, ⟨wd q, hw, h1⟩, fun r hr hK => ?_, .inr (by rw [hb, hcb])⟩
  have hq := h.all r hr hK
  rcases I.desc h.mem hr hq with rfl | ⟨d, hdm, hdr⟩
  · exfalso
    have := hK.length_le
    rw [h1, List.length_append] at this
    have hz : (k.drop (lcp (nd r).px k)).length = 0 := by omega
    rw [List.length_eq_zero_iff.1 hz] at hb
    simp at hb
  · have h2 := I.byte_at h.mem hdm hdr
    obtain ⟨t, ht⟩ := hK
    have h3 : (wd r)[(wd q).length]? = some b := by
      rw [← ht, List.getElem?_append_left, hbyte]
      exact (List.getElem?_eq_some_iff.1 hbyte).1
    rw [h2] at h3
    have : c = d := I.ne q h.mem c d hcm hdm (by rw [hcb]; simpa using h3.symm)
    rw [this]; exact hdr

end

end Go.Proofs.Ytmdbnjepajifpaa
