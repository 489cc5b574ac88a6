/- VisitPrefixes, impl.Over. -/
import Derived.Test.YtmdbnjepajifpaaVOver
import Derived.Test.YtmdbnjepajifpaaImp
namespace Go.Proofs.Ytmdbnjepajifpaa
open Go.RowKit Go.Proofs.YtmdbnjepajifpaaW.PrintWords Go.Proofs.YtmdbnjepajifpaaW.PrintLast Go.Proofs.YtmdbnjepajifpaaW.PrintMore

/-- The trie's blocks and the key's. -/
def badK (O : Nat → Prop) (kb : Nat) (k : Nat) : Prop := O k ∨ k = kb

/-- A round of VisitPrefixes: the search has come to node q; the keys above it have been visited. -/
structure VPI (t : Nat) (M : Wd → Option Int) (O : Nat → Prop) (N : Nat → Prop) (nd : Nat → Nd) (wd : Nat → List UInt8) (K : Wd) (w : World) (kb bo base : Nat) (q : Nat) (k : Wd) (o : Nat) (L : List Wd) (wr : World) : Prop where
  srch : Srch t N nd wd K q k
  low : ∀ r, N r → wd r <+: K → (wd r).length < (wd q).length ∨ wd q <+: wd r
  off : o + k.length = K.length
  vs : VS bo base (badK O kb) L wr
  srt : Srt L
  mem : ∀ u, u ∈ L ↔ M u ≠ none ∧ u <+: K ∧ u.length < (wd q).length
  len : L.length ≤ (wd q).length
  T : Tch w wr (fun k => ¬ badK O kb k ∧ (k = bo ∨ base ≤ k))

section
variable {w wr : World} {t : Nat} {mp : Int} {rp : List UInt8} {M : List UInt8 → Option Int} {O : Nat → Prop} {N : Nat → Prop} {nd : Nat → Nd} {wd : Nat → List UInt8} {S : Nat → List UInt8} {sh : Nat → Nat} {K k : Wd} {q o kb bo base : Nat} {L : List Wd}

/-- What VisitPrefixes leaves. -/
def VPP (M : Wd → Option Int) (O : Nat → Prop) (K : Wd) (w : World) (kb bo base : Nat) (e : Ending) (w' : World) : Prop :=
  e = .returned .nilIface ∧ ∃ L, VS bo base (badK O kb) L w' ∧ Srt L ∧ (∀ u, u ∈ L ↔ M u ≠ none ∧ u <+: K) ∧ Tch w w' (fun k => ¬ badK O kb k ∧ (k = bo ∨ base ≤ k))

theorem qshift0 {P : Program} {f : FuncId} {args : Array Value} {w : World} {v : Value} (h : ∀ n, Calls P f args (w.drewN n) (RetD v (w.drewN n))) (n : Nat) :
    Calls P f args (w.drewN n) fun e w'' => e = .returned v ∧ ∃ m, w'' = w.drewN m :=
  (h n).mono fun e w'' ⟨he, m, hm⟩ => ⟨he, n + m, by rw [hm, World.drewN_drewN]⟩
theorem KS.dr {W : World} {b o : Nat} {k : List UInt8} (h : KS W b o k) (n : Nat) : KS (W.drewN n) b o k := h
theorem KS.pre {W : World} {b o : Nat} {k u : List UInt8} (hu : u <+: k) (h : KS W b o k) : KS W b o u := by
  have := h.take u.length
  rw [← List.prefix_iff_eq_take.1 hu] at this
  exact this
theorem Tch.ta (A : TA w t mp rp M O N nd wd S sh) {W : World} {U : Nat → Prop} (hT : Tch w W U) (hU : ∀ k, O k → ¬ U k) : TA W t mp rp M O N nd wd S sh := A.later (fun k hk => hT.keep k (A.lt k hk) (hU k hk)) hT.size
theorem KS.keep {W : World} {b o : Nat} {k : List UInt8} (h : KS w b o k) {U : Nat → Prop} (hT : Tch w W U) (hU : ¬ U b) : KS W b o k := by
  intro i hi
  rw [World.cell?_of_block (w := w) (hT.keep b (World.block_lt_of_cell? w _ (h i hi)) hU)]
  exact h i hi

/-- All keys above the key have been visited where none lies deeper. -/
theorem VPI.done (A : TA w t mp rp M O N nd wd S sh) (h : VPI t M O N nd wd K w kb bo base q k o L wr) (hno : ∀ r, N r → wd q <+: wd r → ¬ wd r <+: K) (n : Nat) : VPP M O K w kb bo base (.returned .nilIface) (wr.drewN n) := by
  refine ⟨rfl, L, h.vs.keep (Tch.dr n), h.srt, fun u => ?_, h.T.drn n⟩
  rw [h.mem]
  constructor
  · rintro ⟨h1, h2, _⟩; exact ⟨h1, h2⟩
  · rintro ⟨h1, h2⟩
    obtain ⟨p, hp, e⟩ := A.C.of u h1
    rcases h.low p hp (by rw [e]; exact h2) with h3 | h3
    · rw [e] at h3; exact ⟨h1, h2, h3⟩
    · exact absurd (by rw [e]; exact h2) (hno p hp h3)

/-- The node's own key comes next. -/
theorem VPI.visit {L' : List Wd} (h : VPI t M O N nd wd K w kb bo base q k o L wr) (hq : wd q <+: K) (hL : (M (wd q) ≠ none ∧ L' = L ++ [wd q]) ∨ (M (wd q) = none ∧ L' = L)) :
    Srt L' ∧ (∀ u, u ∈ L' ↔ M u ≠ none ∧ u <+: K ∧ u.length ≤ (wd q).length) ∧ L'.length ≤ (wd q).length + 1 := by
  have same : ∀ u, u <+: K → u.length = (wd q).length → u = wd q := fun u hu hl => by
    rw [List.prefix_iff_eq_take.1 hu, List.prefix_iff_eq_take.1 hq, hl]
    try simp
  have hlen := h.len
  rcases hL with ⟨h1, rfl⟩ | ⟨h1, rfl⟩
  · refine ⟨?_, fun u => ?_, by simp; omega⟩
    · show (L ++ [wd q]).Pairwise _
      rw [List.pairwise_append]
      refine ⟨h.srt, by simp, fun a ha b hb => ?_⟩
      simp only [List.mem_singleton] at hb
      subst hb
      obtain ⟨_, h2, h3⟩ := (h.mem a).1 ha
      exact pre_lt (List.prefix_of_prefix_length_le h2 hq (by omega)) h3
    · rw [List.mem_append, List.mem_singleton, h.mem]
      constructor
      · rintro (⟨h2, h3, h4⟩ | rfl)
        · exact ⟨h2, h3, by omega⟩
        · exact ⟨h1, hq, Nat.le_refl _⟩
      · rintro ⟨h2, h3, h4⟩
        rcases Nat.lt_or_ge u.length (wd q).length with h5 | h5
        · exact .inl ⟨h2, h3, h5⟩
        · exact .inr (same u h3 (by omega))
  · refine ⟨h.srt, fun u => ?_, by omega⟩
    rw [h.mem]
    constructor
    · rintro ⟨h2, h3, h4⟩; exact ⟨h2, h3, by omega⟩
    · rintro ⟨h2, h3, h4⟩
      refine ⟨h2, h3, ?_⟩
      rcases Nat.lt_or_ge u.length (wd q).length with h5 | h5
      · exact h5
      · rw [same u h3 (by omega)] at h2; exact absurd h1 h2

/-- At the end of the key. -/
theorem VPI.stop (A : TA w t mp rp M O N nd wd S sh) {L' : List Wd} {W : World} (h : VPI t M O N nd wd K w kb bo base q k o L wr) (hq : wd q <+: K) (hL : (M (wd q) ≠ none ∧ L' = L ++ [wd q]) ∨ (M (wd q) = none ∧ L' = L)) (hno : ∀ r, N r → wd q <+: wd r → wd r <+: K → r = q)
    (hV : VS bo base (badK O kb) L' W) (hT : Tch w W (fun k => ¬ badK O kb k ∧ (k = bo ∨ base ≤ k))) (n : Nat) : VPP M O K w kb bo base (.returned .nilIface) (W.drewN n) := by
  obtain ⟨h1, h2, _⟩ := h.visit hq hL
  refine ⟨rfl, L', hV.keep (Tch.dr n), h1, fun u => ?_, hT.drn n⟩
  rw [h2]
  constructor
  · rintro ⟨h3, h4, _⟩; exact ⟨h3, h4⟩
  · rintro ⟨h3, h4⟩
    obtain ⟨p, hp, e⟩ := A.C.of u h3
    rcases h.low p hp (by rw [e]; exact h4) with h5 | h5
    · rw [e] at h5; exact ⟨h3, h4, by omega⟩
    · have := hno p hp h5 (by rw [e]; exact h4)
      rw [this] at e
      exact ⟨h3, h4, by rw [← e]; exact Nat.le_refl _⟩
end

set_option maxRecDepth 100000 in
set_option maxHeartbeats 6400000 in
theorem visitPrefixes_any {t : Nat} {mp : Int} {rp : List UInt8} {M : List UInt8 → Option Int} {O : Nat → Prop} {N : Nat → Prop} {nd : Nat → Nd} {wd : Nat → List UInt8} {S : Nat → List UInt8} {sh : Nat → Nat} (w : World) (A : TA w t mp rp M O N nd wd S sh)
    (kb kc : Nat) (K : List UInt8) (hk : KS w kb 0 K) (hkc : K.length ≤ kc) (hkl : K.length ≤ 10) (hk0 : 0 < K.length) (bo base : Nat) (hV : VS bo base (badK O kb) [] w) (hbase : base ≤ w.heap.size) :
    Calls Try.prog 52 #[ptr t, .slice (some ⟨kb, 0, none⟩) K.length kc, .func (.func 53) #[] #[.pointer (some ⟨bo, 0, none⟩)]] w (VPP M O K w kb bo base) := by
  have hkblt : kb < w.heap.size := World.block_lt_of_cell? w _ (hk 0 hk0)
  have hbad : ∀ k, badK O kb k → k < w.heap.size := fun k h => by
    rcases h with h | h
    · exact A.lt k h
    · rw [h]; exact hkblt
  have hroot := A.T.H t A.T.I.root_mem
  have c0 := hroot.sl A.T.rn
  have hnil := fun (W : World) (a : Addr) (n c : Nat) => Lib.run_eql_slice_nil (P := Try.prog) W 53 5 (some a) n c 0 0 Try.underlying53
  have hfn := fun (args : Array Value) (w : World) => (by kernel_rfl : (callFunc 53 args).run Try.prog w = .ok (.enter 53 args) w)
  have HA := Lib.hid A
  have HK := Lib.hid hk
  have HBAD := Lib.hid hbad
  have H0 : Hid (VPI t M O N nd wd K w kb bo base t K 0 [] w) := (⟨Srch.start A.T.I K, fun r hr _ => .inr (A.T.I.root_le hr), by omega, hV, List.Pairwise.nil, fun u => by
    constructor
    · intro h; cases h
    · rintro ⟨h1, _, h3⟩
      obtain ⟨p, hp, e⟩ := A.C.of u h1
      have := (A.T.I.root_le hp).length_le
      rw [e] at this
      omega, Nat.zero_le _, Tch.refl _ _⟩ : VPI t M O N nd wd K w kb bo base t K 0 [] w)
  clear hroot A hk hbad hV
  go_enter Try.func52, Try.ntmps52
  go_wp2_with fail
  clear c0 hnil
  go_loopw [1, 7, 9] (fun key node off wr => ∃ (k : List UInt8) (o m q : Nat) (L : List Wd), key = .slice (some ⟨kb, o, none⟩) k.length m ∧ node = ptr q ∧ off = .int .i64 (o : Int) ∧ k.length ≤ m ∧ k.length ≤ 10 ∧ o ≤ 10 ∧ Hid (VPI t M O N nd wd K w kb bo base q k o L wr))
    (fun key node _ _ => 2 * slen key + atRoot t node)
  case atStart => exact ⟨K, 0, kc, t, [], rfl, rfl, rfl, hkc, hkl, Nat.zero_le _, H0⟩
  case round =>
    obtain ⟨k, o, m, q, L, rfl, rfl, rfl, hkm, hk10, ho10, HS⟩ := hrel
    have hN := HS.out.srch.mem
    have hA := HS.out.T.ta HA.out (fun k hk h => h.1 (.inl hk))
    have hnp := hA.T.np hN
    have hpx := hA.T.pxl hN
    obtain ⟨c, hc⟩ : ∃ c, lcp (nd q).px k = c := ⟨_, rfl⟩
    have hcl := lcp_le_left (nd q).px k
    have hcr := lcp_le_right (nd q).px k
    rw [hc] at hcl hcr
    have HC := Lib.hid hc
    have hkbd : ¬ (¬ badK O kb kb ∧ (kb = bo ∨ base ≤ kb)) := fun h => h.1 (.inr rfl)
    have hkk : KS w kb o k := by
      obtain ⟨u, _, h2⟩ := HS.out.srch.cut
      have h3 := HS.out.off
      have h4 : u.length = o := by have := congrArg List.length h2; rw [List.length_append] at this; omega
      have := HK.out.drop o
      rw [Nat.zero_add] at this
      rw [h2, ← h4, List.drop_left] at this
      rw [← h4]; exact this
    have HKK := Lib.hid hkk
    -- what is known of node q and the key in any world that keeps them
    have HLAY : Hid (∀ W, Tch w W (fun k => ¬ badK O kb k ∧ (k = bo ∨ base ≤ k)) → W.cell? ⟨q, 0, none⟩ = some (.slice (some ⟨(nd q).sb, (nd q).so, none⟩) (nd q).px.length (nd q).sc) ∧ W.cell? ⟨q, 1, none⟩ = some (itv (nd q).it) ∧ W.cell? ⟨q, 4, none⟩ = some (.iface (nd q).cl.ty (ptr (nd q).cl.l)) ∧
        (∀ n, Calls Try.prog 70 #[ptr q, .slice (some ⟨kb, o, none⟩) k.length m] (W.drewN n) (RetD (.int .i64 (c : Nat)) (W.drewN n)))) := by
      show ∀ W, _
      intro W hT
      have A1 := hT.ta HA.out (fun k hk h => h.1 (.inl hk))
      have h1 := A1.T.H q hN
      refine ⟨h1.sl hnp, h1.c1, h1.c4, fun n => ?_⟩
      have := lcp_q W q kb o m (nd q) k h1 hnp (HKK.out.keep hT hkbd) (by omega) (by omega) n
      rw [HC.out] at this
      exact this
    obtain ⟨c0, c1, c4, hl⟩ := HLAY.out wr HS.out.T
    have HL := Lib.hid hl
    have HKBD := Lib.hid hkbd
    clear hA hc hkbd hkk hl hnp
    by_cases hsp : c < (nd q).px.length
    · have g2 : (c : Int) < ((nd q).px.length : Int) := by omega
      have hno : ∀ r, N r → wd q <+: wd r → ¬ wd r <+: K := fun r _ h1 h2 => by
        obtain ⟨u, hu1, hu2⟩ := HS.out.srch.cut
        have hp := h1.trans h2
        rw [hu1, hu2] at hp
        have h2 : (nd q).px <+: k := (List.prefix_append_right_inj u).1 hp
        obtain ⟨z, hz⟩ := h2
        have h3 := lcp_eq (nd q).px k (nd q).px.length (Nat.le_refl _) (by rw [← hz]; simp) (by rw [← hz]; simp) (fun h => by omega)
        rw [HC.out] at h3
        omega
      have HNO := Lib.hid hno
      clear hno HLAY c1 c4
      by_cases hmc : m = c
      all_goals
        try subst hmc
        go_wp2_with (go_at_call 70; refine (HL.out 0).mono ?_; rintro e w' ⟨rfl, n1, rfl⟩)
        go_ret
        exact HS.out.done HA.out HNO.out _
    · have hcp : c = (nd q).px.length := by omega
      have HCP := Lib.hid hcp
      clear hcp
      have g2 : ¬ (c : Int) < ((nd q).px.length : Int) := by omega
      have hfull : lcp (nd q).px k = (nd q).px.length := by rw [HC.out, HCP.out]
      have hKq : K = wd q ++ k.drop c := by have := HS.out.srch.full hfull; rw [HC.out] at this; exact this
      have hqK : wd q <+: K := by rw [hKq]; exact List.prefix_append _ _
      have hwl : (wd q).length = o + c := by
        have h3 := HS.out.off
        have := congrArg List.length hKq
        rw [List.length_append, List.length_drop] at this
        omega
      have hok : o + c ≤ K.length := by have := hqK.length_le; omega
      have hwq10 := HA.out.T.I.len q hN
      have e9 : IntKind.i64.wrap ((o : Int) + (c : Int)) = ((o + c : Nat) : Int) := by rw [IntWalk.i64_in _ (by omega)]; omega
      have HQ := Lib.hid (⟨hfull, hKq, hqK, hwl⟩ : _ ∧ _ ∧ _ ∧ _)
      have hkcq : o + c ≤ kc := by omega
      have hoc10 : o + c ≤ 10 := by omega
      clear hfull hKq hqK hwl e9
      have m1 := m_next (nd q).cl
      have m2 := f_next (nd q).cl
      cases hit : (nd q).it with
      | none =>
        rw [hit] at c1
        simp only [itv] at c1
        have HIT := Lib.hid hit
        clear hit
        by_cases hck : c = k.length
        · have hdr : k.drop c = [] := by rw [hck]; simp
          have hno : ∀ r, N r → wd q <+: wd r → wd r <+: K → r = q := fun r hr h1 h2 => by
            have hK := HQ.out.2.1
            rw [hdr, List.append_nil] at hK
            rw [hK] at h2
            exact HA.out.T.I.inj hN hr (h1.eq_of_length (Nat.le_antisymm h1.length_le h2.length_le))
          have HNO := Lib.hid hno
          subst hck
          have hz : (((k.length - k.length : Nat) : Int) == 0) = true := by simp
          clear hno hdr
          by_cases hmc : m = k.length
          all_goals
            try subst hmc
            go_wp2_with (go_at_call 70; refine (HL.out 0).mono ?_; rintro e w' ⟨rfl, n1, rfl⟩)
            go_ret
            exact HS.out.stop HA.out HQ.out.2.2.1 (.inr ⟨by rw [HA.out.C.at_ q hN, HIT.out], rfl⟩) HNO.out HS.out.vs HS.out.T _
        · have hck' : c < k.length := by omega
          have hmc : ¬ m = c := by omega
          obtain ⟨b, hb⟩ : ∃ b, (k.drop c).head? = some b := by
            cases hd : k.drop c with
            | nil => have := congrArg List.length hd; rw [List.length_drop] at this; simp at this; omega
            | cons b l => exact ⟨b, rfl⟩
          have hne : ((k.length - c : Nat) : Int) ≠ 0 := by omega
          have hnz : (((k.length - c : Nat) : Int) == 0) = false := by rw [beq_eq_false_iff_ne]; exact hne
          have hpos : 0 < k.length - c := by omega
          have HB := Lib.hid hb
          have HKC : Hid (∀ W, Tch w W (fun k => ¬ badK O kb k ∧ (k = bo ∨ base ≤ k)) → W.cell? ⟨kb, o + c, none⟩ = some (.int .u8 (b.toNat : Int))) := by
            show ∀ W, _
            intro W hT
            exact ((HKK.out.keep hT HKBD.out).drop c).head HB.out
          obtain ⟨x, hx⟩ : ∃ x, (nd q).cl.child (fun c => (nd c).fb) b = x := ⟨_, rfl⟩
          have HX := Lib.hid hx
          have HNX : Hid (∀ W, Tch w W (fun k => ¬ badK O kb k ∧ (k = bo ∨ base ≤ k)) → ∀ n, Calls Try.prog ((nd q).cl.fn 116 148) #[ptr (nd q).cl.l, .int .u8 (b.toNat : Int)] (W.drewN n) (RetD (optr x) (W.drewN n))) := by
            show ∀ W, _
            intro W hT n
            have A1 := hT.ta HA.out (fun k hk h => h.1 (.inl hk))
            have := next_q W (fun c => (nd c).fb) (nd q).cl b (A1.T.H q hN).raw (A1.T.I.kb A1.T.H hN) n
            rw [HX.out] at this
            exact this
          clear hx hb hne
          cases x with
          | none =>
            have hno : ∀ r, N r → wd q <+: wd r → wd r <+: K → r = q := fun r hr h1 h2 => by
              rcases HA.out.T.I.desc hN hr h1 with h | ⟨d, hd, h⟩
              · exact h
              · exfalso
                have h3 := HA.out.T.I.byte_at hN hd (h.trans h2)
                have h4 : K[(wd q).length]? = some b := by
                  have := HQ.out.2.1
                  rw [this, List.getElem?_append_right (Nat.le_refl _), Nat.sub_self, ← List.head?_eq_getElem?]; exact HB.out
                rw [h4] at h3
                injection h3 with h3
                exact find_none HX.out d hd h3.symm
            have HNO := Lib.hid hno
            clear hno
            have hb0 := HKC.out wr HS.out.T
            have HN0 := Lib.hid (HNX.out wr HS.out.T)
            go_wp2_with (go_at_call 70; refine (HL.out 0).mono ?_; rintro e w' ⟨rfl, n1, rfl⟩)
            go_quiet (first | exact qshift HN0.out _ _ | exact qshift0 HN0.out _)
            go_wp2_with fail
            go_ret
            exact HS.out.stop HA.out HQ.out.2.2.1 (.inr ⟨by rw [HA.out.C.at_ q hN, HIT.out], rfl⟩) HNO.out HS.out.vs HS.out.T _
          | some x =>
            have hxk := find_some HX.out
            have hst := HS.out.srch.step HA.out.T.I HQ.out.1 (by rw [HC.out]; exact HB.out) hxk.1 hxk.2
            rw [HC.out] at hst
            have hxr := (HA.out.T.I.kid q hN x hxk.1).2.1
            have hxl := HA.out.T.I.kid_longer hN hxk.1
            have hlow : ∀ r, N r → wd r <+: K → (wd r).length < (wd x).length ∨ wd x <+: wd r := fun r hr h2 => by
              rcases HS.out.low r hr h2 with h1 | h1
              · left; omega
              · rcases HA.out.T.I.desc hN hr h1 with h | ⟨d, hd, h⟩
                · left; rw [h]; omega
                · right
                  have h3 := HA.out.T.I.byte_at hN hd (h.trans h2)
                  have h4 : K[(wd q).length]? = some b := by
                    have := HQ.out.2.1
                    rw [this, List.getElem?_append_right (Nat.le_refl _), Nat.sub_self, ← List.head?_eq_getElem?]; exact HB.out
                  rw [h4] at h3
                  injection h3 with h3
                  have : d = x := HA.out.T.I.ne q hN d x hd hxk.1 (by rw [← h3]; exact hxk.2.symm)
                  rw [← this]; exact h
            have hxw : ∀ u, u <+: K → (u.length ≤ (wd q).length ↔ M u = none ∨ u.length ≤ (wd q).length) → True := fun _ _ _ => trivial
            have hbet : ∀ u, M u ≠ none → u <+: K → u.length < (wd x).length → u.length ≤ (wd q).length := fun u h1 h2 h3 => by
              obtain ⟨r, hr, e⟩ := HA.out.C.of u h1
              rw [← e] at h2 h3 ⊢
              rcases HS.out.low r hr h2 with h4 | h4
              · omega
              · rcases HA.out.T.I.desc hN hr h4 with h | ⟨d, hd, h⟩
                · rw [h]; exact Nat.le_refl _
                · exfalso
                  rcases hlow r hr h2 with h5 | h5
                  · have h6 := HA.out.T.I.byte_at hN hd (h.trans h2)
                    have h7 : K[(wd q).length]? = some b := by
                      have := HQ.out.2.1
                      rw [this, List.getElem?_append_right (Nat.le_refl _), Nat.sub_self, ← List.head?_eq_getElem?]; exact HB.out
                    rw [h7] at h6
                    injection h6 with h6
                    have : d = x := HA.out.T.I.ne q hN d x hd hxk.1 (by rw [← h6]; exact hxk.2.symm)
                    rw [this] at h
                    have := h.length_le
                    omega
                  · have := h5.length_le; omega
            have HST := Lib.hid (⟨hst, hlow, hbet, hxl⟩ : _ ∧ _ ∧ _ ∧ _)
            have HLT := Lib.hid (step_less HA.out.T.I hN hxr HCP.out hck')
            clear hxk hst hxr hxl hlow hbet hxw
            have hb0 := HKC.out wr HS.out.T
            have HN0 := Lib.hid (HNX.out wr HS.out.T)
            go_wp2_with (go_at_call 70; refine (HL.out 0).mono ?_; rintro e w' ⟨rfl, n1, rfl⟩)
            go_quiet (first | exact qshift HN0.out _ _ | exact qshift0 HN0.out _)
            go_wp2_with fail
            go_roundw
            case rel =>
              refine ⟨k.drop c, o + c, m - c, x, L, by rw [List.length_drop], rfl, by go_num, by rw [List.length_drop]; omega, by rw [List.length_drop]; omega, by omega, (?_ : VPI t M O N nd wd K w kb bo base x (k.drop c) (o + c) L _)⟩
              obtain ⟨v1, v2, v3⟩ := HS.out.visit HQ.out.2.2.1 (L' := L) (.inr ⟨by rw [HA.out.C.at_ q hN, HIT.out], rfl⟩)
              exact ⟨HST.out.1, HST.out.2.1, by rw [List.length_drop]; have := HS.out.off; omega, HS.out.vs.keep (Tch.dr _), v1, fun u => (v2 u).trans ⟨fun h => ⟨h.1, h.2.1, by have := h.2.2; have := HST.out.2.2.2; omega⟩, fun h => ⟨h.1, h.2.1, HST.out.2.2.1 u h.1 h.2.1 h.2.2⟩⟩, by have := HST.out.2.2.2; omega, HS.out.T.drn _⟩
            case measure => exact HLT.out
      | some v =>
        rw [hit] at c1
        simp only [itv] at c1
        have HIT := Lib.hid hit
        clear hit
        by_cases hck : c = k.length
        · have hdr : k.drop c = [] := by rw [hck]; simp
          have hno : ∀ r, N r → wd q <+: wd r → wd r <+: K → r = q := fun r hr h1 h2 => by
            have hK := HQ.out.2.1
            rw [hdr, List.append_nil] at hK
            rw [hK] at h2
            exact HA.out.T.I.inj hN hr (h1.eq_of_length (Nat.le_antisymm h1.length_le h2.length_le))
          have HNO := Lib.hid hno
          subst hck
          have hz : (((k.length - k.length : Nat) : Int) == 0) = true := by simp
          clear hno hdr
          by_cases hmc : m = k.length
          all_goals
            try subst hmc
            go_wp2_with (go_at_call 70; refine (HL.out 0).mono ?_; rintro e w' ⟨rfl, n1, rfl⟩)
            have hcall := vOver_call bo base (badK O kb) L (wr.drewN n1) (wd q) kb 0 kc (.iface 3 (.int .i64 v)) (HS.out.vs.keep (Tch.dr _)) ((KS.keep HK.out HS.out.T HKBD.out).dr n1 |> KS.pre HQ.out.2.2.1) (by omega) (by have := HS.out.len; omega) (fun k hk => Nat.lt_of_lt_of_le (HBAD.out k hk) HS.out.T.size) (Nat.le_trans hbase HS.out.T.size)
            rw [HQ.out.2.2.2] at hcall
            refine hcall.mono ?_
            rintro e w2 ⟨rfl, hV2, hT2⟩
            have hTw : Tch w w2 (fun k => ¬ badK O kb k ∧ (k = bo ∨ base ≤ k)) := (HS.out.T.drn n1).trans hT2 (fun b hb h => h)
            have HV2 := Lib.hid (⟨hV2, hTw⟩ : _ ∧ _)
            clear hcall hV2 hT2 hTw c0 c1 c4
            obtain ⟨c0, c1, c4, _⟩ := HLAY.out w2 HV2.out.2
            go_wp2_with fail
            go_ret
            exact HS.out.stop HA.out HQ.out.2.2.1 (.inl ⟨by rw [HA.out.C.at_ q hN, HIT.out]; simp, rfl⟩) HNO.out HV2.out.1 HV2.out.2 0
        · have hck' : c < k.length := by omega
          have hmc : ¬ m = c := by omega
          obtain ⟨b, hb⟩ : ∃ b, (k.drop c).head? = some b := by
            cases hd : k.drop c with
            | nil => have := congrArg List.length hd; rw [List.length_drop] at this; simp at this; omega
            | cons b l => exact ⟨b, rfl⟩
          have hne : ((k.length - c : Nat) : Int) ≠ 0 := by omega
          have hnz : (((k.length - c : Nat) : Int) == 0) = false := by rw [beq_eq_false_iff_ne]; exact hne
          have hpos : 0 < k.length - c := by omega
          have HB := Lib.hid hb
          have HKC : Hid (∀ W, Tch w W (fun k => ¬ badK O kb k ∧ (k = bo ∨ base ≤ k)) → W.cell? ⟨kb, o + c, none⟩ = some (.int .u8 (b.toNat : Int))) := by
            show ∀ W, _
            intro W hT
            exact ((HKK.out.keep hT HKBD.out).drop c).head HB.out
          obtain ⟨x, hx⟩ : ∃ x, (nd q).cl.child (fun c => (nd c).fb) b = x := ⟨_, rfl⟩
          have HX := Lib.hid hx
          have HNX : Hid (∀ W, Tch w W (fun k => ¬ badK O kb k ∧ (k = bo ∨ base ≤ k)) → ∀ n, Calls Try.prog ((nd q).cl.fn 116 148) #[ptr (nd q).cl.l, .int .u8 (b.toNat : Int)] (W.drewN n) (RetD (optr x) (W.drewN n))) := by
            show ∀ W, _
            intro W hT n
            have A1 := hT.ta HA.out (fun k hk h => h.1 (.inl hk))
            have := next_q W (fun c => (nd c).fb) (nd q).cl b (A1.T.H q hN).raw (A1.T.I.kb A1.T.H hN) n
            rw [HX.out] at this
            exact this
          clear hx hb hne
          cases x with
          | none =>
            have hno : ∀ r, N r → wd q <+: wd r → wd r <+: K → r = q := fun r hr h1 h2 => by
              rcases HA.out.T.I.desc hN hr h1 with h | ⟨d, hd, h⟩
              · exact h
              · exfalso
                have h3 := HA.out.T.I.byte_at hN hd (h.trans h2)
                have h4 : K[(wd q).length]? = some b := by
                  have := HQ.out.2.1
                  rw [this, List.getElem?_append_right (Nat.le_refl _), Nat.sub_self, ← List.head?_eq_getElem?]; exact HB.out
                rw [h4] at h3
                injection h3 with h3
                exact find_none HX.out d hd h3.symm
            have HNO := Lib.hid hno
            clear hno
            have hb0 := HKC.out wr HS.out.T
            have HN0 := Lib.hid (HNX.out wr HS.out.T)
            go_wp2_with (go_at_call 70; refine (HL.out 0).mono ?_; rintro e w' ⟨rfl, n1, rfl⟩)
            have hcall := vOver_call bo base (badK O kb) L (wr.drewN n1) (wd q) kb 0 kc (.iface 3 (.int .i64 v)) (HS.out.vs.keep (Tch.dr _)) ((KS.keep HK.out HS.out.T HKBD.out).dr n1 |> KS.pre HQ.out.2.2.1) (by omega) (by have := HS.out.len; omega) (fun k hk => Nat.lt_of_lt_of_le (HBAD.out k hk) HS.out.T.size) (Nat.le_trans hbase HS.out.T.size)
            rw [HQ.out.2.2.2] at hcall
            refine hcall.mono ?_
            rintro e w2 ⟨rfl, hV2, hT2⟩
            have hTw : Tch w w2 (fun k => ¬ badK O kb k ∧ (k = bo ∨ base ≤ k)) := (HS.out.T.drn n1).trans hT2 (fun b hb h => h)
            have HV2 := Lib.hid (⟨hV2, hTw⟩ : _ ∧ _)
            clear hcall hV2 hT2 hTw c0 c1 c4 hb0 HN0
            obtain ⟨c0, c1, c4, _⟩ := HLAY.out w2 HV2.out.2
            have hb0 := HKC.out w2 HV2.out.2
            have HN0 := Lib.hid (HNX.out w2 HV2.out.2)
            go_wp2_with fail
            go_quiet (first | exact qshift HN0.out _ _ | exact qshift0 HN0.out _)
            go_wp2_with fail
            go_ret
            exact HS.out.stop HA.out HQ.out.2.2.1 (.inl ⟨by rw [HA.out.C.at_ q hN, HIT.out]; simp, rfl⟩) HNO.out HV2.out.1 HV2.out.2 _
          | some x =>
            have hxk := find_some HX.out
            have hst := HS.out.srch.step HA.out.T.I HQ.out.1 (by rw [HC.out]; exact HB.out) hxk.1 hxk.2
            rw [HC.out] at hst
            have hxr := (HA.out.T.I.kid q hN x hxk.1).2.1
            have hxl := HA.out.T.I.kid_longer hN hxk.1
            have hlow : ∀ r, N r → wd r <+: K → (wd r).length < (wd x).length ∨ wd x <+: wd r := fun r hr h2 => by
              rcases HS.out.low r hr h2 with h1 | h1
              · left; omega
              · rcases HA.out.T.I.desc hN hr h1 with h | ⟨d, hd, h⟩
                · left; rw [h]; omega
                · right
                  have h3 := HA.out.T.I.byte_at hN hd (h.trans h2)
                  have h4 : K[(wd q).length]? = some b := by
                    have := HQ.out.2.1
                    rw [this, List.getElem?_append_right (Nat.le_refl _), Nat.sub_self, ← List.head?_eq_getElem?]; exact HB.out
                  rw [h4] at h3
                  injection h3 with h3
                  have : d = x := HA.out.T.I.ne q hN d x hd hxk.1 (by rw [← h3]; exact hxk.2.symm)
                  rw [← this]; exact h
            have hxw : ∀ u, u <+: K → (u.length ≤ (wd q).length ↔ M u = none ∨ u.length ≤ (wd q).length) → True := fun _ _ _ => trivial
            have hbet : ∀ u, M u ≠ none → u <+: K → u.length < (wd x).length → u.length ≤ (wd q).length := fun u h1 h2 h3 => by
              obtain ⟨r, hr, e⟩ := HA.out.C.of u h1
              rw [← e] at h2 h3 ⊢
              rcases HS.out.low r hr h2 with h4 | h4
              · omega
              · rcases HA.out.T.I.desc hN hr h4 with h | ⟨d, hd, h⟩
                · rw [h]; exact Nat.le_refl _
                · exfalso
                  rcases hlow r hr h2 with h5 | h5
                  · have h6 := HA.out.T.I.byte_at hN hd (h.trans h2)
                    have h7 : K[(wd q).length]? = some b := by
                      have := HQ.out.2.1
                      rw [this, List.getElem?_append_right (Nat.le_refl _), Nat.sub_self, ← List.head?_eq_getElem?]; exact HB.out
                    rw [h7] at h6
                    injection h6 with h6
                    have : d = x := HA.out.T.I.ne q hN d x hd hxk.1 (by rw [← h6]; exact hxk.2.symm)
                    rw [this] at h
                    have := h.length_le
                    omega
                  · have := h5.length_le; omega
            have HST := Lib.hid (⟨hst, hlow, hbet, hxl⟩ : _ ∧ _ ∧ _ ∧ _)
            have HLT := Lib.hid (step_less HA.out.T.I hN hxr HCP.out hck')
            clear hxk hst hxr hxl hlow hbet hxw
            have hb0 := HKC.out wr HS.out.T
            have HN0 := Lib.hid (HNX.out wr HS.out.T)
            go_wp2_with (go_at_call 70; refine (HL.out 0).mono ?_; rintro e w' ⟨rfl, n1, rfl⟩)
            have hcall := vOver_call bo base (badK O kb) L (wr.drewN n1) (wd q) kb 0 kc (.iface 3 (.int .i64 v)) (HS.out.vs.keep (Tch.dr _)) ((KS.keep HK.out HS.out.T HKBD.out).dr n1 |> KS.pre HQ.out.2.2.1) (by omega) (by have := HS.out.len; omega) (fun k hk => Nat.lt_of_lt_of_le (HBAD.out k hk) HS.out.T.size) (Nat.le_trans hbase HS.out.T.size)
            rw [HQ.out.2.2.2] at hcall
            refine hcall.mono ?_
            rintro e w2 ⟨rfl, hV2, hT2⟩
            have hTw : Tch w w2 (fun k => ¬ badK O kb k ∧ (k = bo ∨ base ≤ k)) := (HS.out.T.drn n1).trans hT2 (fun b hb h => h)
            have HV2 := Lib.hid (⟨hV2, hTw⟩ : _ ∧ _)
            clear hcall hV2 hT2 hTw c0 c1 c4 hb0 HN0
            obtain ⟨c0, c1, c4, _⟩ := HLAY.out w2 HV2.out.2
            have hb0 := HKC.out w2 HV2.out.2
            have HN0 := Lib.hid (HNX.out w2 HV2.out.2)
            go_wp2_with fail
            go_quiet (first | exact qshift HN0.out _ _ | exact qshift0 HN0.out _)
            go_wp2_with fail
            go_roundw
            case rel =>
              refine ⟨k.drop c, o + c, m - c, x, (L ++ [wd q]), by rw [List.length_drop], rfl, by go_num, by rw [List.length_drop]; omega, by rw [List.length_drop]; omega, by omega, (?_ : VPI t M O N nd wd K w kb bo base x (k.drop c) (o + c) (L ++ [wd q]) _)⟩
              obtain ⟨v1, v2, v3⟩ := HS.out.visit HQ.out.2.2.1 (L' := (L ++ [wd q])) (.inl ⟨by rw [HA.out.C.at_ q hN, HIT.out]; simp, rfl⟩)
              exact ⟨HST.out.1, HST.out.2.1, by rw [List.length_drop]; have := HS.out.off; omega, HV2.out.1.keep (Tch.dr _), v1, fun u => (v2 u).trans ⟨fun h => ⟨h.1, h.2.1, by have := h.2.2; have := HST.out.2.2.2; omega⟩, fun h => ⟨h.1, h.2.1, HST.out.2.2.1 u h.1 h.2.1 h.2.2⟩⟩, by have := HST.out.2.2.2; omega, HV2.out.2.drn _⟩
            case measure => exact HLT.out

end Go.Proofs.Ytmdbnjepajifpaa
