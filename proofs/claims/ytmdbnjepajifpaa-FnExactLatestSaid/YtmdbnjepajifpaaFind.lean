/- findSubtree comes to the node beneath which all words begin with the key, if there is one. -/
import Derived.Test.YtmdbnjepajifpaaSrch
namespace Go.Proofs.Ytmdbnjepajifpaa
open Go.RowKit

/-- A trie's nodes in memory, of a shape. -/
structure TR (w : World) (root : Nat) (N : Nat → Prop) (nd : Nat → Nd) (wd : Nat → List UInt8) (S : Nat → List UInt8) (sh : Nat → Nat) : Prop where
  I : Inv root N nd wd S sh
  H : ∀ p, N p → HN w p (nd p)
  rn : (nd root).np = false

section
variable {root : Nat} {N : Nat → Prop} {nd : Nat → Nd} {wd : Nat → List UInt8} {S : Nat → List UInt8} {sh : Nat → Nat} {w : World}
theorem TR.np (T : TR w root N nd wd S sh) {p : Nat} (hp : N p) : (nd p).np = false := by
  by_cases h : p = root
  · rw [h]; exact T.rn
  · exact T.I.np p hp h
theorem TR.pxl (T : TR w root N nd wd S sh) {p : Nat} (hp : N p) : (nd p).px.length ≤ 10 := by
  have h1 := T.I.len p hp
  by_cases h : p = root
  · rw [h, ← T.I.root_wd, ← h]; exact h1
  · obtain ⟨q, hq, hc⟩ := T.I.par p hp h
    have := (T.I.kid q hq p hc).2.2.1
    rw [this, List.length_append] at h1
    omega
end

/-- The parent that a search hands back. -/
def ParOf (root : Nat) (N : Nat → Prop) (nd : Nat → Nd) (P : Option Nat) (q : Nat) : Prop :=
  (P = none ∧ q = root) ∨ ∃ p, P = some p ∧ N p ∧ q ∈ (nd p).cl.kids

/-- What findSubtree returns. -/
def Found (root : Nat) (N : Nat → Prop) (nd : Nat → Nd) (wd : Nat → List UInt8) (K : List UInt8) (w : World) (e : Ending) (w' : World) : Prop :=
  ∃ (P : Option Nat) (q : Nat) (f : Bool) (lo : Value), e = .returned (.tuple #[optr P, ptr q, .bool f, lo]) ∧ (∃ n, w' = w.drewN n) ∧
    (f = false → ∀ r, N r → ¬ K <+: wd r) ∧
    (f = true → N q ∧ ParOf root N nd P q ∧ (∀ r, N r → K <+: wd r → wd q <+: wd r) ∧
      ∃ (b o m : Nat) (l : List UInt8), lo = .slice (some ⟨b, o, none⟩) l.length m ∧ wd q = K ++ l ∧ KS w b o l ∧ l.length ≤ 10)

section
variable {root : Nat} {N : Nat → Prop} {nd : Nat → Nd} {wd : Nat → List UInt8} {S : Nat → List UInt8} {sh : Nat → Nat} {w : World} {K k : List UInt8} {q kb o : Nat} {P : Option Nat}
theorem found_no {lo : Value} (n : Nat) (h : ∀ r, N r → ¬ K <+: wd r) : Found root N nd wd K w (.returned (.tuple #[optr P, ptr q, .bool false, lo])) (w.drewN n) :=
  ⟨P, q, false, lo, rfl, ⟨n, rfl⟩, fun _ => h, fun h => by cases h⟩

theorem found_yes (T : Hid (TR w root N nd wd S sh)) (HS : Hid (Srch root N nd wd K q k ∧ KS w kb o k ∧ ParOf root N nd P q)) (hc : Hid (lcp (nd q).px k = k.length)) (n : Nat) (o' m' : Nat)
    (ho : k.length < (nd q).px.length → o' = (nd q).so + k.length) :
    Found root N nd wd K w (.returned (.tuple #[optr P, ptr q, .bool true, .slice (some ⟨(nd q).sb, o', none⟩) ((nd q).px.length - k.length) m'])) (w.drewN n) := by
  obtain ⟨h1, _, h3⟩ := HS.out
  have hN := h1.mem
  refine ⟨P, q, true, _, rfl, ⟨n, rfl⟩, fun h => (by cases h), fun _ => ⟨hN, h3, h1.all, (nd q).sb, o', m', (nd q).px.drop k.length, by rw [List.length_drop], ?_, ?_, ?_⟩⟩
  · have := h1.none_left (by rw [hc.out]; simp)
    rw [hc.out] at this
    exact this
  · by_cases hl : k.length < (nd q).px.length
    · rw [ho hl]
      exact ((T.out.H q hN).ks (T.out.np hN)).drop _
    · rw [List.drop_eq_nil_of_le (by omega)]
      intro i hi
      simp at hi
  · have := T.out.pxl hN
    rw [List.length_drop]
    omega
end

def slen : Value → Nat | .slice _ n _ => n | _ => 0
def atRoot (t : Nat) : Value → Nat | .pointer (some a) => if a.block = t then 1 else 0 | _ => 0

theorem Inv.px_pos {root : Nat} {N : Nat → Prop} {nd : Nat → Nd} {wd : Nat → List UInt8} {S : Nat → List UInt8} {sh : Nat → Nat} (I : Inv root N nd wd S sh) {p : Nat} (hp : N p) (h : p ≠ root) : 0 < (nd p).px.length := by
  obtain ⟨q, hq, hc⟩ := I.par p hp h
  exact List.length_pos_iff.2 (I.kid q hq p hc).2.2.2

theorem atRoot_self (t : Nat) : atRoot t (ptr t) = 1 := by simp [atRoot]
theorem atRoot_other {t x : Nat} (h : x ≠ t) : atRoot t (ptr x) = 0 := by simp [atRoot, h]

/-- Each step lowers what is left of the key, or leaves the root. -/
theorem step_less {root : Nat} {N : Nat → Prop} {nd : Nat → Nd} {wd : Nat → List UInt8} {S : Nat → List UInt8} {sh : Nat → Nat} (I : Inv root N nd wd S sh) {q x c n : Nat} (hq : N q) (hx : x ≠ root)
    (hc : c = (nd q).px.length) (hn : c < n) : 2 * (n - c) + atRoot root (ptr x) < 2 * n + atRoot root (ptr q) := by
  rw [atRoot_other hx]
  by_cases h : q = root
  · subst h; rw [atRoot_self]; omega
  · have := I.px_pos hq h
    omega

set_option maxHeartbeats 3200000 in
theorem find_any {root : Nat} {N : Nat → Prop} {nd : Nat → Nd} {wd : Nat → List UInt8} {S : Nat → List UInt8} {sh : Nat → Nat} (w : World) (T : TR w root N nd wd S sh)
    (kb ko kc : Nat) (K : List UInt8) (hk : KS w kb ko K) (hkc : K.length ≤ kc) (hkl : K.length ≤ 10) :
    Calls Try.prog 65 #[ptr root, .slice (some ⟨kb, ko, none⟩) K.length kc] w (Found root N nd wd K w) := by
  have HK := Lib.hid hk
  have HT := Lib.hid T
  clear hk T
  go_enter Try.func65, Try.ntmps65
  go_wp2_with fail
  go_loopw [1, 4, 5, 6, 7] (fun key par rt f lo wr => ∃ (k : List UInt8) (o m q n : Nat) (P : Option Nat), key = .slice (some ⟨kb, o, none⟩) k.length m ∧ par = optr P ∧ rt = ptr q ∧ f = .bool false ∧ lo = .slice none 0 0 ∧ wr = w.drewN n ∧ k.length ≤ m ∧ k.length ≤ 10 ∧
      Hid (Srch root N nd wd K q k ∧ KS w kb o k ∧ ParOf root N nd P q))
    (fun key _ rt _ _ _ => 2 * slen key + atRoot root rt)
  case atStart => exact ⟨K, ko, kc, root, 0, none, rfl, rfl, rfl, rfl, rfl, rfl, hkc, hkl, (⟨Srch.start HT.out.I K, HK.out, .inl ⟨rfl, rfl⟩⟩ : _ ∧ _ ∧ _)⟩
  case round =>
    obtain ⟨k, o, m, q, n, P, rfl, rfl, rfl, rfl, rfl, rfl, hkm, hk10, HS⟩ := hrel
    have hN := HS.out.1.mem
    have hn := HT.out.H q hN
    have hnp := HT.out.np hN
    have hpx := HT.out.pxl hN
    obtain ⟨c, hc⟩ : ∃ c, lcp (nd q).px k = c := ⟨_, rfl⟩
    have hcl := lcp_le_left (nd q).px k
    have hcr := lcp_le_right (nd q).px k
    have hl := lcp_q w q kb o m (nd q) k hn hnp HS.out.2.1 (by omega) (by omega) n
    rw [hc] at hcl hcr hl
    have HL := Lib.hid hl
    have HC := Lib.hid hc
    have c0 := hn.sl hnp
    have c4 := hn.c4
    unfold CL.val at c4
    have Hn := Lib.hid hn
    clear hl hc hn hnp hN
    have m1 := m_next (nd q).cl
    have m2 := f_next (nd q).cl
    by_cases h1 : c = k.length
    · subst h1
      have hsc := Hn.out.le
      by_cases h2 : m = k.length
      · subst h2
        go_wp2_with (go_at_call 70; refine HL.out.mono ?_; rintro e w' ⟨rfl, n1, rfl⟩)
        all_goals
          refine bodyPost_ret (results_tmp4 rfl _ _ _) rfl ?_
          exact found_yes HT HS HC _ _ _ (by intro _; omega)
      · go_wp2_with (go_at_call 70; refine HL.out.mono ?_; rintro e w' ⟨rfl, n1, rfl⟩)
        all_goals
          refine bodyPost_ret (results_tmp4 rfl _ _ _) rfl ?_
          exact found_yes HT HS HC _ _ _ (by intro _; omega)
    · have hck : c < k.length := by omega
      have hkc0 : ¬ m = c := by omega
      obtain ⟨b, hb⟩ : ∃ b, (k.drop c).head? = some b := by
        cases hd : k.drop c with
        | nil => have := congrArg List.length hd; rw [List.length_drop] at this; simp at this; omega
        | cons b l => exact ⟨b, rfl⟩
      have hne : ((k.length - c : Nat) : Int) ≠ 0 := by omega
      have hnz : (((k.length - c : Nat) : Int) == 0) = false := by rw [beq_eq_false_iff_ne]; exact hne
      have hb0 := (HS.out.2.1.drop c).head hb
      have hpos : 0 < k.length - c := by omega
      by_cases h2 : c < (nd q).px.length
      · have g2 : (c : Int) < ((nd q).px.length : Int) := by omega
        have hsc := Hn.out.le
        have hscc : ¬ (nd q).sc = c := by omega
        have hno := HS.out.1.part (by rw [HC.out]; exact h2) (by rw [HC.out]; intro h; rw [h] at hb; simp at hb)
        have HNO := Lib.hid hno
        clear hno hb hb0 hne
        go_wp2_with (go_at_call 70; refine HL.out.mono ?_; rintro e w' ⟨rfl, n1, rfl⟩)
        all_goals
          refine bodyPost_ret (results_tmp4 rfl _ _ _) rfl ?_
          exact found_no _ HNO.out
      · have hcp : c = (nd q).px.length := by omega
        have HCP := Lib.hid hcp
        clear hcp
        have g2 : ¬ (c : Int) < ((nd q).px.length : Int) := by omega
        have HB := Lib.hid hb
        clear hb hne
        have hfull : lcp (nd q).px k = (nd q).px.length := by rw [HC.out, HCP.out]
        have HFU := Lib.hid hfull
        clear hfull
        obtain ⟨x, hx⟩ : ∃ x, (nd q).cl.child (fun c => (nd c).fb) b = x := ⟨_, rfl⟩
        have hnx := next_q w (fun c => (nd c).fb) (nd q).cl b Hn.out.raw (HT.out.I.kb HT.out.H HS.out.1.mem)
        rw [hx] at hnx
        have HX := Lib.hid hx
        have HNX := Lib.hid hnx
        clear hx hnx
        cases x with
        | none =>
          have hno := HS.out.1.no_child HT.out.I HFU.out (by rw [HC.out]; exact HB.out) (find_none HX.out)
          have HNO := Lib.hid hno
          clear hno
          go_wp2_with (go_at_call 70; refine HL.out.mono ?_; rintro e w' ⟨rfl, n1, rfl⟩)
          go_quiet (exact qshift HNX.out _ _)
          go_wp2_with fail
          all_goals
            refine bodyPost_ret (results_tmp4 rfl _ _ _) rfl ?_
            exact found_no _ HNO.out
        | some x =>
          have hxk := find_some HX.out
          have hst := HS.out.1.step HT.out.I HFU.out (by rw [HC.out]; exact HB.out) hxk.1 hxk.2
          rw [HC.out] at hst
          have hxr := (HT.out.I.kid q HS.out.1.mem x hxk.1).2.1
          have HST : Hid (Srch root N nd wd K x (k.drop c) ∧ KS w kb (o + c) (k.drop c) ∧ ParOf root N nd (some q) x) :=
            ⟨hst, HS.out.2.1.drop c, .inr ⟨q, rfl, HS.out.1.mem, hxk.1⟩⟩
          have HLT := Lib.hid (step_less HT.out.I HS.out.1.mem hxr HCP.out hck)
          clear hxk hst hxr
          go_wp2_with (go_at_call 70; refine HL.out.mono ?_; rintro e w' ⟨rfl, n1, rfl⟩)
          go_quiet (exact qshift HNX.out _ _)
          go_wp2_with fail
          go_roundw
          case rel => exact ⟨k.drop c, o + c, m - c, x, _, some q, by rw [List.length_drop], rfl, rfl, rfl, rfl, rfl, by rw [List.length_drop]; omega, by rw [List.length_drop]; omega, HST⟩
          case measure => exact HLT.out

end Go.Proofs.Ytmdbnjepajifpaa
