/- DeleteSubtree; impl.Cut. -/
import Derived.Test.YtmdbnjepajifpaaGreatVisit
import Derived.Test.YtmdbnjepajifpaaGreatC5
import Derived.Test.YtmdbnjepajifpaaGreatC8
set_option linter.unusedVariables false
set_option linter.unusedSimpArgs false
namespace Go.Proofs.YtmdbnjepajifpaaGreat
open Go.RowKit Go.Proofs.YtmdbnjepajifpaaGreatW.PrintWords Go.Proofs.YtmdbnjepajifpaaGreatW.PrintLast Go.Proofs.YtmdbnjepajifpaaGreatW.PrintMore

/-- The map without the keys that begin with K. -/
def cutM (M : Wd → Option Int) (K : Wd) : Wd → Option Int := fun u => if K <+: u then none else M u

section
variable {t : Nat} {mp : Int} {rp : Wd} {M : Wd → Option Int} {O : Nat → Prop} {N : Nat → Prop} {wd : Nat → List UInt8} {S : Nat → List UInt8} {sh : Nat → Nat} {nd : Nat → Nd} {w : World}

theorem cutM_iff (K u : Wd) : cutM M K u ≠ none ↔ M u ≠ none ∧ ¬ K <+: u := by
  unfold cutM
  by_cases h : K <+: u
  · rw [if_pos h]; simp [h]
  · rw [if_neg h]; simp [h]

theorem cutM_none (K : Wd) (h : ∀ k, M k ≠ none → ¬ K <+: k) : cutM M K = M := by
  funext u
  unfold cutM
  by_cases hu : K <+: u
  · rw [if_pos hu]
    cases hm : M u with
    | none => rfl
    | some x => exact absurd hu (h u (by rw [hm]; simp))
  · rw [if_neg hu]

/-- What DeleteSubtree leaves. -/
def DSub (t : Nat) (mp : Int) (rp : Wd) (M : Wd → Option Int) (O : Nat → Prop) (wd : Nat → List UInt8) (S : Nat → List UInt8) (sh : Nat → Nat) (K : Wd) (w : World) (e : Ending) (w' : World) : Prop :=
  ∃ b, e = .returned (.bool b) ∧ (b = true ↔ ∃ k, M k ≠ none ∧ K <+: k) ∧ ∃ N' nd', TA w' t mp rp (cutM M K) O N' nd' wd S sh ∧ Tch w w' O

/-- Behind the remove. -/
theorem dsub_post (A : TA w t mp rp M O N nd wd S sh) (L : Lf 1 N nd) {K : Wd} {p q : Nat} (hp : N p) (hq : q ∈ (nd p).cl.kids) (hK : K <+: wd q) (hall : ∀ r, N r → K <+: wd r → wd q <+: wd r) {e : Ending} {w' : World} (R : RemP w (fun c => (nd c).fb) (nd p).cl q e w') :
    e = .returned (.tuple #[]) ∧ DSub t mp rp M O wd S sh K w (.returned (.bool true)) w' := by
  have he : e = .returned (.tuple #[]) := by obtain ⟨_, he, _⟩ := R; exact he
  have hqN := (A.T.I.kid p hp q hq).1
  have hiff : ∀ r, N r → (wd q <+: wd r ↔ K <+: wd r) := fun r hr => ⟨fun h => hK.trans h, hall r hr⟩
  obtain ⟨cl', A2, _, hT2⟩ := drop_TA (M2 := cutM M K) (m := 0) A hp hq R (fun y hy hyx => by unfold cutM; rw [if_neg (fun h => hyx ((hiff y hy).2 h))]) (fun k hk => by
    obtain ⟨h1, h2⟩ := (cutM_iff K k).1 hk
    obtain ⟨y, hy, e⟩ := A.C.of k h1
    exact ⟨h1, fun h => h2 (by rw [← e] at h ⊢; exact (hiff y hy).1 h)⟩) (fun _ _ _ _ => .inr (Nat.zero_le _)) (.inr (List.length_pos_of_mem hq))
  refine ⟨he, true, rfl, ⟨fun _ => ?_, fun _ => rfl⟩, _, _, A2, hT2⟩
  obtain ⟨k, hk, hpre⟩ := has_key A (Nat.le_refl 1) L _ q (Nat.le_refl _) hqN
  exact ⟨k, hk, hK.trans hpre⟩

set_option maxRecDepth 100000 in
set_option maxHeartbeats 3200000 in
theorem delSub_any (A : TA w t mp rp M O N nd wd S sh) (L : Lf 1 N nd) (ha : M [65] ≠ none) (hz : M [90] ≠ none) (kb kc : Nat) (K : Wd) (hk : KS w kb 0 K) (hkc : K.length ≤ kc) (hK0 : 0 < K.length) (hK10 : K.length ≤ 10) :
    Calls Tryz.prog 22 #[ptr t, .slice (some ⟨kb, 0, none⟩) K.length kc] w (DSub t mp rp M O wd S sh K w) := by
  have hfd := find_any w A.T kb 0 kc K hk hkc hK10
  have c0 := (A.T.H t A.T.I.root_mem).sl A.T.rn
  have hnil := fun (W : World) (a : Addr) (n c : Nat) => Lib.run_eql_slice_nil (P := Tryz.prog) W 44 5 (some a) n c 0 0 Tryz.underlying44
  have HFD := Lib.hid hfd
  have HA := Lib.hid (⟨A, L⟩ : _ ∧ _)
  have HM := Lib.hid (⟨ha, hz⟩ : _ ∧ _)
  clear hfd A L hk ha hz
  go_enter Tryz.func22, Tryz.ntmps22
  go_wp2_with fail
  refine HFD.out.mono ?_
  rintro e w1 ⟨P, q, f, lo, rfl, ⟨n1, rfl⟩, hno, hyes⟩
  cases f with
  | false =>
    have HNO := Lib.hid (hno rfl)
    clear hno hyes
    go_wp2_with fail
    go_ret
    have h := no_key HA.out.1 HNO.out
    exact ⟨false, rfl, ⟨fun h => (by cases h), fun ⟨k, hk, hp⟩ => absurd hp (h k hk)⟩, N, nd, by rw [cutM_none K h]; exact HA.out.1.dr n1, (Tch.refl w _).drn n1⟩
  | true =>
    obtain ⟨hq, hpar, hall, b, o, m, l, rfl, hwq, hkl, hl10⟩ := hyes rfl
    have hqt : q ≠ t := fun e => by
      have := (root_two HA.out.1 HM.out.1 HM.out.2).2.1
      rw [← e, hwq] at this
      rw [List.append_eq_nil_iff.1 this |>.1] at hK0
      simp at hK0
    obtain ⟨p, rfl, hp, hpk⟩ : ∃ p, P = some p ∧ N p ∧ q ∈ (nd p).cl.kids := by
      rcases hpar with ⟨_, h⟩ | h
      · exact absurd h hqt
      · exact h
    obtain ⟨W, hW⟩ : ∃ W, w.drewN n1 = W := ⟨_, rfl⟩
    obtain ⟨W3, hW3⟩ : ∃ W3, W.drew = W3 := ⟨_, rfl⟩
    have AW : TA W3 t mp rp M O N nd wd S sh := by rw [← hW3, ← hW]; exact (HA.out.1.dr n1).dr 1
    have hTW : Tch w W3 O := by rw [← hW3, ← hW]; exact ((Tch.refl w _).drn n1).drw
    have hqpx : 0 < (nd q).px.length := List.length_pos_iff.2 (AW.T.I.kid p hp q hpk).2.2.2
    have P4 : W3.cell? ⟨p, 4, none⟩ = some (.iface (nd p).cl.ty (ptr (nd p).cl.l)) := (AW.T.H p hp).c4
    have x0 := (AW.T.H q hq).sl (AW.T.np hq)
    have xb : W3.cell? ⟨(nd q).sb, (nd q).so, none⟩ = some (.int .u8 ((nd q).fb.toNat : Int)) := by
      refine ((AW.T.H q hq).ks (AW.T.np hq)).head ?_
      unfold Nd.fb
      cases hxx : (nd q).px with
      | nil => rw [hxx] at hqpx; simp at hqpx
      | cons a r => rfl
    have m1 := m_remove (nd p).cl
    have m2 := f_remove (nd p).cl
    have HY := Lib.hid (⟨hp, hpk, (by rw [hwq]; exact List.prefix_append _ _ : K <+: wd q), hall⟩ : _ ∧ _ ∧ _ ∧ _)
    have HW := Lib.hid (⟨AW, hTW⟩ : _ ∧ _)
    have HL := Lib.hid HA.out.2
    clear hno hyes hq hpar hall hwq hkl hqt hp hpk AW hTW hnil
    rw [hW]
    have HW3 := Lib.hid hW3
    clear hW hW3
    go_wp2_with fail
    refine wp_region_tail 12 (by kernel_rfl) (by kernel_rfl) HW3.out ?_
    simp only [List.take_succ_cons, List.take_zero, List.drop_succ_cons, List.drop_zero]
    repeat still_step
    refine wpStill_nil ?_
    go_wp2_with fail
    refine (drop_call HW.out.1 HY.out.1 HY.out.2.1).mono ?_
    intro e w' hR
    obtain ⟨he, b2, hb2, hb3, N', nd', A2, hT2⟩ := dsub_post HW.out.1 HL.out HY.out.1 HY.out.2.1 HY.out.2.2.1 HY.out.2.2.2 hR
    subst he
    injection hb2 with hb2
    injection hb2 with hb2
    subst hb2
    have HB := Lib.hid (⟨hb3, A2, hT2⟩ : _ ∧ _ ∧ _)
    clear hR hb3 A2 hT2 P4 x0 xb m1 m2
    go_wp2_with fail
    go_ret
    exact ⟨true, rfl, by simpa using HB.out.1, N', nd', HB.out.2.1, HW.out.2.trans HB.out.2.2 (fun _ _ h => h)⟩
end

theorem cut_fin (ws : List ByteArray) (h : ws.length ≤ 500) (K : Wd) : ∃ U : List Wd, U.length ≤ 500 ∧ ∀ u, cutM (mapOf false ws ws.length) K u ≠ none → u ∈ U := by
  refine ⟨ws.map keyOf, by rw [List.length_map]; exact h, fun u hu => ?_⟩
  obtain ⟨s, hs, e⟩ := (map_iff ws u).1 ((cutM_iff K u).1 hu).1
  exact List.mem_map.2 ⟨s, hs, e⟩

/-- What impl.Cut returns: the keys that are left, and whether there were some. -/
def CutIP (w : World) (M : Wd → Option Int) (s : ByteArray) (e : Ending) (w' : World) : Prop :=
  ∃ (v : Value) (T : List Wd) (b : Bool), e = .returned (.tuple #[v, .bool b]) ∧ Kd.R Kd.string 9 w' w.heap.size (fun _ => True) v (T.map strB) ∧ Srt T ∧ (∀ u, u ∈ T ↔ M u ≠ none ∧ (!begB (strB u) s) = true) ∧ (b = true ↔ ∃ k, M k ≠ none ∧ keyOf s <+: k) ∧ Tch w w' (fun _ => False)

theorem ws_az {ws : List ByteArray} (W : WS ws) : mapOf false ws ws.length [65] ≠ none ∧ mapOf false ws ws.length [90] ≠ none :=
  ⟨(map_iff ws _).2 ⟨_, List.mem_of_getElem? W.first, rfl⟩, (map_iff ws _).2 ⟨_, List.mem_of_getElem? W.second, rfl⟩⟩

set_option maxRecDepth 100000 in
set_option maxHeartbeats 3200000 in
theorem cut_impl (w : World) (n m : Nat) (hn : 1 ≤ n) (hm : 1 ≤ m) (hm9 : m ≤ 12) (v : Value) (ws : List ByteArray) (W : WS ws) (R : Row w v ws) (hmax : ws.length ≤ 500) (s : ByteArray) (hs0 : 0 < s.size) (hs10 : s.size ≤ 10) :
    Calls Tryz.prog 8 #[.int .i64 n, .int .i64 m, v, .string s] w (CutIP w (mapOf false ws ws.length) s) := by
  have hcv := conv_run
  have HAZ := Lib.hid (ws_az W)
  have HGR := Lib.hid (grow_any w n m hn hm hm9 v ws W R (by omega))
  clear R W
  go_enter Tryz.func8, Tryz.ntmps8
  go_wp2_with fail
  refine HGR.out.mono ?_
  rintro e w1 ⟨t, rfl, O, rp, T, hO, hT⟩
  obtain ⟨N, nd, wd, S, sh, A, L⟩ := T
  have hk := conv_key w1 s
  have hTc := conv_tch w1 s (fun _ => False)
  have hds := delSub_any (hTc.ta A (fun _ _ h => h)) (L.mono (by omega)) HAZ.out.1 HAZ.out.2 w1.heap.size (grownCap w1 s.size 0 5) (keyOf s) hk.1 hk.2.1 (by rw [keyOf_len]; exact hs0) (by rw [keyOf_len]; exact hs10)
  rw [keyOf_len] at hds
  have HDS := Lib.hid hds
  have hTw : Tch w (convW w1 s) (fun _ => False) := hT.trans hTc (fun _ _ h => h)
  have HO := Lib.hid (⟨hO, hTw⟩ : _ ∧ _)
  clear hds hk hTc A L hT hO hTw
  go_wp2_with fail
  refine HDS.out.mono ?_
  rintro e w2 ⟨b, rfl, hb, N2, nd2, A2, hT2⟩
  have hTw2 : Tch w w2 (fun _ => False) := HO.out.2.trans hT2 (fun b hb h => by have := HO.out.1 b h; omega)
  have HK := Lib.hid (keys_any (base := w.heap.size) A2.lax HO.out.1 hTw2.size (cut_fin ws hmax (keyOf s)))
  have HT2 := Lib.hid hTw2
  have HB := Lib.hid hb
  clear A2 hT2 hTw2 hb
  go_wp2_with fail
  refine HK.out.mono ?_
  rintro e w3 ⟨v3, T, rfl, hR, hS, hmem, hT3⟩
  have HP : Hid (CutIP w (mapOf false ws ws.length) s (.returned (.tuple #[v3, .bool b])) w3) := by
    refine (⟨v3, T, b, rfl, hR, hS, fun u => ?_, HB.out, HT2.out.trans hT3 (fun b hb h => by omega)⟩ : CutIP w (mapOf false ws ws.length) s (.returned (.tuple #[v3, .bool b])) w3)
    rw [hmem, cutM_iff]
    unfold begB
    rw [key_strB]
    simp
  clear hR hS hmem hT3
  go_wp2_with fail
  go_ret2
  exact HP.out

end Go.Proofs.YtmdbnjepajifpaaGreat
