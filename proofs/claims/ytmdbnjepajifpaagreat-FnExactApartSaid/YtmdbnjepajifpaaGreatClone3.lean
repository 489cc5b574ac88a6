/- The nodes copied are a trie of the same words. -/
import Derived.Test.YtmdbnjepajifpaaGreatClone1
import Derived.Test.YtmdbnjepajifpaaGreatC6
set_option linter.unusedVariables false
set_option linter.unusedSimpArgs false
namespace Go.Proofs.YtmdbnjepajifpaaGreat
open Go.RowKit

section
variable {t : Nat} {mp : Int} {rp : List UInt8} {M : List UInt8 → Option Int} {O : Nat → Prop} {N : Nat → Prop} {nd : Nat → Nd} {wd : Nat → List UInt8} {S : Nat → List UInt8} {sh : Nat → Nat} {w W : World} {lo : Nat} {cn : Nat → Nat} {cd : Nat → Nd}

theorem Inv.px_le (I : Inv t N nd wd S sh) {x : Nat} (hx : N x) : (nd x).px.length ≤ (wd x).length := by
  by_cases h : x = t
  · subst h; rw [I.root_wd]; exact Nat.le_refl _
  · obtain ⟨q, hq, hc⟩ := I.par x hx h
    rw [(I.kid q hq x hc).2.2.1, List.length_append]; omega

open Classical in
theorem clone_taw (A : TA w t mp rp M O N nd wd S sh) (H : ClS W lo N nd cn cd) :
    ∃ N' nd' wd' S' sh', TAw W (cn t) mp rp M (fun k => lo ≤ k ∧ k < W.heap.size) N' nd' wd' S' sh' := by
  have I := A.T.I
  obtain ⟨iv, hiv⟩ : ∃ iv : Nat → Nat, ∀ x, N x → iv (cn x) = x := by
    refine ⟨fun y => if h : ∃ x, N x ∧ cn x = y then Classical.choose h else y, fun x hx => ?_⟩
    have h : ∃ x', N x' ∧ cn x' = cn x := ⟨x, hx, rfl⟩
    show (if h : ∃ x', N x' ∧ cn x' = cn x then Classical.choose h else cn x) = x
    rw [dif_pos h]
    exact H.sn _ _ (Classical.choose_spec h).1 hx (Classical.choose_spec h).2
  obtain ⟨bv, hbv⟩ : ∃ bv : Nat → Nat, ∀ x, N x → (cd x).np = false → bv (cd x).sb = x := by
    refine ⟨fun y => if h : ∃ x, N x ∧ (cd x).np = false ∧ (cd x).sb = y then Classical.choose h else y, fun x hx hn => ?_⟩
    have h : ∃ x', N x' ∧ (cd x').np = false ∧ (cd x').sb = (cd x).sb := ⟨x, hx, hn, rfl⟩
    show (if h : ∃ x', N x' ∧ (cd x').np = false ∧ (cd x').sb = (cd x).sb then Classical.choose h else (cd x).sb) = x
    rw [dif_pos h]
    obtain ⟨h1, h2, h3⟩ := Classical.choose_spec h
    exact H.sb _ _ h1 hx h2 hn h3
  obtain ⟨nd', e1⟩ : ∃ nd' : Nat → Nd, ∀ x, N x → nd' (cn x) = cd x := ⟨fun y => cd (iv y), fun x hx => by show cd (iv (cn x)) = _; rw [hiv x hx]⟩
  obtain ⟨wd', e2⟩ : ∃ wd' : Nat → List UInt8, ∀ x, N x → wd' (cn x) = wd x := ⟨fun y => wd (iv y), fun x hx => by show wd (iv (cn x)) = _; rw [hiv x hx]⟩
  have ef : ∀ x, N x → (nd' (cn x)).fb = (nd x).fb := fun x hx => by unfold Nd.fb; rw [e1 x hx, (H.one x hx).px]
  have ek : ∀ x, N x → (nd' (cn x)).cl.kids = (nd x).cl.kids.map cn := fun x hx => by rw [e1 x hx]; exact (H.one x hx).cl.kids
  have hI : Inv (cn t) (fun y => ∃ x, N x ∧ cn x = y) nd' wd' (fun b => wd (bv b)) (fun b => (wd (bv b)).length - (nd (bv b)).px.length) := by
    refine ⟨⟨t, I.root_mem, rfl⟩, ?_, ?_, ?_, ?_, ?_, ?_, ?_, ?_, ?_, ?_, ?_⟩
    · rw [e2 t I.root_mem, e1 t I.root_mem, (H.one t I.root_mem).px]; exact I.root_wd
    · rintro _ ⟨x, hx, rfl⟩ hne
      rw [e1 x hx]
      cases hn : (cd x).np with
      | false => rfl
      | true =>
        obtain ⟨q, hq, hc⟩ := I.par x hx (fun e => hne (by rw [e]))
        exact absurd ((H.one x hx).np hn).1 (I.kid q hq x hc).2.2.2
    · rintro _ ⟨x, hx, rfl⟩ c hc
      rw [ek x hx] at hc
      obtain ⟨d, hd, rfl⟩ := List.mem_map.1 hc
      obtain ⟨k1, k2, k3, k4⟩ := I.kid x hx d hd
      refine ⟨⟨d, k1, rfl⟩, fun e => k2 (H.sn d t k1 I.root_mem e), ?_, ?_⟩
      · rw [e2 d k1, e2 x hx, e1 d k1, (H.one d k1).px]; exact k3
      · rw [e1 d k1, (H.one d k1).px]; exact k4
    · rintro _ ⟨x, hx, rfl⟩ c c' hc hc' e
      rw [ek x hx] at hc hc'
      obtain ⟨d, hd, rfl⟩ := List.mem_map.1 hc
      obtain ⟨d', hd', rfl⟩ := List.mem_map.1 hc'
      rw [ef d (I.kid x hx d hd).1, ef d' (I.kid x hx d' hd').1] at e
      rw [I.ne x hx d d' hd hd' e]
    · rintro _ ⟨x, hx, rfl⟩
      rw [ek x hx]
      exact List.pairwise_map.2 ((I.nodup x hx).imp_of_mem (fun ha hb hne e => hne (H.sn _ _ (I.kid x hx _ ha).1 (I.kid x hx _ hb).1 e)))
    · rintro _ ⟨x, hx, rfl⟩
      have := (H.one x hx).cl.placed (fb' := fun c => (nd' c).fb) (I.placed x hx) (fun c hc => ef c (I.kid x hx c hc).1)
      rw [e1 x hx]; exact this
    · rintro _ ⟨x, hx, rfl⟩ hne
      obtain ⟨q, hq, hc⟩ := I.par x hx (fun e => hne (by rw [e]))
      exact ⟨cn q, ⟨q, hq, rfl⟩, by rw [ek q hq]; exact List.mem_map_of_mem hc⟩
    · rintro _ _ ⟨x, hx, rfl⟩ ⟨y, hy, rfl⟩ e
      rw [e1 x hx, e1 y hy] at e
      rw [H.sl x y hx hy e]
    · rintro _ _ ⟨x, hx, rfl⟩ ⟨y, hy, rfl⟩ e
      rw [e1 x hx, e1 y hy] at e
      rw [H.sa x y hx hy e]
    · rintro _ ⟨x, hx, rfl⟩
      rw [e2 x hx]; exact I.len x hx
    · rintro _ ⟨x, hx, rfl⟩ hn
      rw [e1 x hx] at hn ⊢
      rw [e2 x hx]
      simp only [hbv x hx hn]
      refine ⟨List.prefix_refl _, ?_⟩
      rw [(H.one x hx).so, (H.one x hx).px]
      have := I.px_le hx
      omega
  refine ⟨_, nd', wd', _, _, ⟨hI, ?_, fun h => ?_⟩, ⟨?_, ?_⟩, ?_, fun k hk => hk.2, ?_, ?_⟩
  · rintro _ ⟨x, hx, rfl⟩
    rw [e1 x hx]; exact (H.one x hx).hn
  · rw [e1 t I.root_mem] at h ⊢
    obtain ⟨h1, h2⟩ := (H.one t I.root_mem).np h
    exact ⟨by rw [(H.one t I.root_mem).px]; exact h1, h2⟩
  · rintro _ ⟨x, hx, rfl⟩
    rw [e2 x hx, e1 x hx, (H.one x hx).it]; exact A.C.at_ x hx
  · intro k hk
    obtain ⟨p, hp, e⟩ := A.C.of k hk
    exact ⟨cn p, ⟨p, hp, rfl⟩, by rw [e2 p hp]; exact e⟩
  · rintro _ ⟨x, hx, rfl⟩
    rw [e1 x hx]
    obtain ⟨g1, g2, g3, g4⟩ := (H.one x hx).ge
    obtain ⟨l1, l2, l3, l4⟩ := (H.one x hx).lt
    exact ⟨⟨g1, l1⟩, ⟨g2, l2⟩, ⟨g3, l3⟩, ⟨g4, l4⟩⟩
  · rw [e1 t I.root_mem, (H.one t I.root_mem).mp]; exact A.mp
  · rw [e1 t I.root_mem, (H.one t I.root_mem).px]; exact A.rp
end

end Go.Proofs.YtmdbnjepajifpaaGreat
