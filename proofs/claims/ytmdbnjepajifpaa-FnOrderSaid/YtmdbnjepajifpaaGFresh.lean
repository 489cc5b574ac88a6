/- The first put into a trie, of whatever key; a trie as it grows, whatever the words. -/
import Derived.Test.YtmdbnjepajifpaaGPut
set_option linter.unusedVariables false
set_option linter.unusedSimpArgs false
namespace Go.Proofs.Ytmdbnjepajifpaa
open Go.RowKit

theorem fresh_ap {w : World} {t m0 : Nat} {O : Nat → Prop} (F : Fresh w t (m0 : Int) O) {kb kc : Nat} {K : List UInt8} (hK : KeyAt w kb kc K) (hk1 : K.length ≤ 10) (hlt : m0 < K.length) (hm0 : 1 ≤ m0) :
    ApE w t (fun _ => none) O K kb kc (m0 : Int) t (K.drop m0) m0 (kc - m0) (w.setCell ⟨t, 0, none⟩ (.slice (some ⟨kb, 0, none⟩) m0 kc)) := by
  obtain ⟨l, a, cap, mc, h1, h2, h3⟩ := F
  obtain ⟨k1, k2, C, fr, k3, k4, k5⟩ := hK
  have ht := lt_of_heap h1
  obtain ⟨CL1, c1⟩ := h2.l_ty
  obtain ⟨CA1, c2⟩ := h2.a_ty
  have nl : l ≠ t := ne_of_type c1 h1 (CL.sty_ne _).1
  have na : a ≠ t := ne_of_type c2 h1 (by decide)
  have nk : kb ≠ t := ne_of_type k3 h1 (by decide)
  have kp : ∀ k, k ≠ t → (w.setCell ⟨t, 0, none⟩ (.slice (some ⟨kb, 0, none⟩) m0 kc)).heap[k]? = w.heap[k]? := fun k h => heap_set_ne h _
  have htl : (K.take m0).length = m0 := by rw [List.length_take]; omega
  have ho : (w.setCell ⟨t, 0, none⟩ (.slice (some ⟨kb, 0, none⟩) m0 kc)).heap[t]? = some (oneNd kb kc (K.take m0) none l a cap (m0 : Int) mc).obj := by
    have e : (oneNd kb kc (K.take m0) none l a cap (m0 : Int) mc).pv = .slice (some ⟨kb, 0, none⟩) m0 kc := by
      show Value.slice (some ⟨kb, 0, none⟩) (K.take m0).length kc = _
      rw [htl]
    rw [heap_set h1]
    unfold Nd.obj
    rw [e]
    rfl
  have I0 := one_inv t kb kc (K.take m0) none l a cap (m0 : Int) mc (by omega)
  have hch : ∀ p, p = t → (oneNd kb kc (K.take m0) none l a cap (m0 : Int) mc).np = false → K.take m0 <+: K ∧ (oneNd kb kc (K.take m0) none l a cap (m0 : Int) mc).so + 0 + (oneNd kb kc (K.take m0) none l a cap (m0 : Int) mc).px.length = (K.take m0).length := fun p _ _ => ⟨List.take_prefix _ _, by simp [oneNd]⟩
  have kk := kp kb nk
  have KA : KeyAt (w.setCell ⟨t, 0, none⟩ (.slice (some ⟨kb, 0, none⟩) m0 kc)) kb kc K := ⟨fun j hj => by rw [World.cell?_of_block kk]; exact k1 j hj, k2, C, fr, kk.trans k3, k4, fun j hj => by rw [frozen_same kk]; exact k5 j hj⟩
  have hs : (w.setCell ⟨t, 0, none⟩ (.slice (some ⟨kb, 0, none⟩) m0 kc)).heap.size = w.heap.size := by simp
  have hT : Tch w (w.setCell ⟨t, 0, none⟩ (.slice (some ⟨kb, 0, none⟩) m0 kc)) O := (Tch.refl w O).setCell _ _ (fun _ => (h3 t).2 (.inl rfl))
  refine ⟨K.take m0, fun k => O k ∨ k = kb, fun p => p = t, fun _ => oneNd kb kc (K.take m0) none l a cap (m0 : Int) mc, fun _ => K.take m0, fun _ => K, fun _ => 0, ⟨⟨⟨{ I0 with chain := hch }, ?_, rfl⟩, ⟨?_, ?_⟩, ?_, ?_, rfl, rfl⟩, rfl, fun p hp hne => absurd hp hne, fun _ => rfl, KA, rfl, rfl, (List.take_append_drop _ _).symm, hk1, fun _ => by rw [List.length_drop]; omega, fun _ => by omega, fun _ => by rw [List.length_drop]; omega, fun _ c hc => by simp [oneNd, CL.kids] at hc, hT, fun k hk => hk.imp id .inl⟩⟩
  · rintro p rfl
    refine ⟨ho, h2.frame (kp _ nl) (kp _ na), by show (K.take m0).length ≤ kc; omega, fun _ => ⟨C, fr, kk.trans k3, by show 0 + kc ≤ _; omega, fun j hj => by show World.frozen? _ ⟨kb, j, none⟩ = false; rw [frozen_same kk]; exact k5 j hj, fun j hj => ?_⟩⟩
    have hj' : j < (K.take m0).length := hj
    have := k1 j (by omega)
    rw [cell_of_block k3] at this
    show C[0 + j]? = some (.int .u8 (((K.take m0).getD j 0).toNat : Int))
    rw [this, List.getD_eq_getElem?_getD, List.getD_eq_getElem?_getD, List.getElem?_take, if_pos (by omega)]
  · rintro p rfl; rfl
  · intro k hk; exact absurd rfl hk
  · rintro p rfl
    exact ⟨.inl ((h3 _).2 (.inl rfl)), .inl ((h3 _).2 (.inr (.inl rfl))), .inl ((h3 _).2 (.inr (.inr rfl))), .inr rfl⟩
  · intro k hk
    rw [hs]
    rcases hk with h | h
    · rcases (h3 k).1 h with h | h | h
      · omega
      · rw [h]; exact lt_of_heap c1
      · rw [h]; exact lt_of_heap c2
    · rw [h]; exact lt_of_heap k3

set_option maxHeartbeats 6400000 in
set_option maxRecDepth 100000 in
theorem put_long (w : World) (t m0 : Nat) (hm0 : 1 ≤ m0) (O : Nat → Prop) (F : Fresh w t (m0 : Int) O) (kb kc : Nat) (K : List UInt8) (hK : KeyAt w kb kc K) (hk1 : K.length ≤ 10) (hkm : m0 < K.length) (i : Int) :
    Calls Try.prog 62 #[ptr t, .slice (some ⟨kb, 0, none⟩) K.length kc, .iface 3 (.int .i64 i), .bool false] w (PutX w t (m0 : Int) (fun _ => none) O K i kb) := by
  have HE0 := Lib.hid (fresh_ap F hK hk1 hkm hm0)
  have hkc := hK.2.1
  obtain ⟨l, a, cap, mc, h1, h2, h3⟩ := F
  have c0 : w.cell? ⟨t, 0, none⟩ = some (.slice none 0 0) := by rw [cell_of_block h1]; rfl
  have c1 : w.cell? ⟨t, 1, none⟩ = some .nilIface := by rw [cell_of_block h1]; rfl
  have c2 : w.cell? ⟨t, 2, none⟩ = some (.int .i64 (m0 : Int)) := by rw [cell_of_block h1]; rfl
  have f0 := free_of_block h1 0
  have hnil := fun (W : World) (a : Addr) (n c : Nat) => Lib.run_eql_slice_nil (P := Try.prog) W 53 5 (some a) n c 0 0 Try.underlying53
  have hnil0 := fun (W : World) => Lib.run_eql_slice_nil (P := Try.prog) W 53 5 none 0 0 0 0 Try.underlying53
  have g0 : ¬ (K.length : Int) ≤ (m0 : Int) := by omega
  have gd : decide (K.length ≤ m0) = false := decide_eq_false (by omega)
  have g1 : (0 : Int) ≤ (m0 : Int) := by omega
  have g2 : (m0 : Int) ≤ (kc : Int) := by omega
  have g3 : (m0 : Int) ≤ (K.length : Int) := by omega
  have g4 : ¬ kc = m0 := by omega
  have g5 : m0 ≤ kc := by omega
  have g6 : m0 ≤ K.length := by omega
  obtain ⟨m6, h6, h61⟩ : ∃ m6 : Nat, m0 = m6 ∧ 1 ≤ m6 := ⟨m0, rfl, hm0⟩
  have HM6 : Hid ((m6 : Int) = 10 ∨ (m6 : Int) = (m0 : Int)) := (.inr (by rw [h6]) : (m6 : Int) = 10 ∨ (m6 : Int) = (m0 : Int))
  have HEE : Hid (ApE w t (fun _ => none) O K kb kc (m6 : Int) t (K.drop m0) m0 (kc - m0) (w.setCell ⟨t, 0, none⟩ (.slice (some ⟨kb, 0, none⟩) m0 kc))) := by
    have h := HE0.out
    rw [show ((m6 : Nat) : Int) = (m0 : Int) by rw [h6]]
    exact (h : ApE w t (fun _ => none) O K kb kc (m0 : Int) t (K.drop m0) m0 (kc - m0) (w.setCell ⟨t, 0, none⟩ (.slice (some ⟨kb, 0, none⟩) m0 kc)))
  obtain ⟨M, hM⟩ : ∃ M : List UInt8 → Option Int, (fun _ => none) = M := ⟨_, rfl⟩
  rw [hM] at HEE ⊢
  clear h1 h2 h3 hK h6 HE0 hM
  go_enter Try.func62, Try.ntmps62
  go_wp2_with fail
  refine wp_scope3 rfl rfl rfl ?_
  intro J0 J1 J2 hJ0 hJ1 hJ2
  go_wp2_with (first | go_step3 | with_reducible refine j3_i0 ?_ | with_reducible refine j3_i1 ?_ | with_reducible refine j3_i2 ?_ | with_reducible refine j1_i0 ?_)
  clear c0 c1 c2 f0 g0 g1 g2 g3 g4 g5 g6
  go_loopw [1, 10] (fun key node wr => ∃ (r : List UInt8) (so sc q : Nat), key = .slice (some ⟨kb, so, none⟩) r.length sc ∧ node = ptr q ∧ Hid (ApE w t M O K kb kc (m6 : Int) q r so sc wr)) (fun key _ _ => slen key)
  case atStart => exact ⟨K.drop m0, m0, kc - m0, t, by rw [List.length_drop], rfl, HEE⟩
  case round =>
    obtain ⟨r, so, sc, q, rfl, rfl, HP⟩ := hrel
    by_cases hr : r = []
    · subst hr
      obtain ⟨rp7, O7, N7, nd7, wd7, S7, sh7, P7⟩ := HP.out
      have z1 := (P7.A.T.H q P7.hq).c1
      rw [P7.lq rfl] at z1
      simp only [itv] at z1
      have z2 := (P7.A.T.H q P7.hq).fr 1
      have HP7 := Lib.hid P7
      clear P7
      go_wp2_with (first | go_step3 | with_reducible refine j3_i0 ?_ | with_reducible refine j3_i1 ?_ | with_reducible refine j3_i2 ?_ | with_reducible refine j1_i0 ?_)
      all_goals
        first | rw [Exit.noGoto_ret] | rw [j1_r] | skip
        go_ret
        exact HP7.out.item i HM6.out 0
    · obtain ⟨rp7, O7, N7, nd7, wd7, S7, sh7, P7⟩ := HP.out
      have hpos : 0 < r.length := List.length_pos_iff.2 hr
      have hnz : ((r.length : Int) != 0) = true := by rw [bne_iff_ne]; omega
      have hr10 : r.length ≤ 10 := by have h1 := P7.eK; have h2 := P7.K10; rw [h1, List.length_append] at h2; omega
      have hrs := P7.hrs hr
      have hq7 := (P7.A.T.H q P7.hq).obj
      have hqlt := lt_of_heap hq7
      have htlt := lt_of_heap (P7.A.T.H t P7.A.T.I.root_mem).obj
      have ht7 := (P7.A.T.H t P7.A.T.I.root_mem).obj
      have hmp7 := P7.A.mp
      have HP7 := Lib.hid P7
      have HR := Lib.hid hr
      clear P7 hr
      go_wp2_with (first | go_step3 | with_reducible refine j3_i0 ?_ | with_reducible refine j3_i1 ?_ | with_reducible refine j3_i2 ?_ | with_reducible refine j1_i0 ?_)
      refine (newTrie_nil _).mono ?_
      rintro e w2 ⟨y, l, a, rfl, hy, hl, ha, hyo, hraw2, hT2⟩
      have hy' : wr.heap.size ≤ y := hy
      have hyq : ¬ y = q := by omega
      have hyt : ¬ y = t := by omega
      have c2' : w2.cell? ⟨t, 2, none⟩ = some (.int .i64 (m6 : Int)) := by
        rw [cell_of_block ((hT2.keep t htlt (fun h => h)).trans ht7)]
        show some (Value.int .i64 (nd7 t).mp) = _
        rw [hmp7]
      have q4' : w2.cell? ⟨q, 4, none⟩ = some (.iface (nd7 q).cl.ty (ptr (nd7 q).cl.l)) := by rw [cell_of_block ((hT2.keep q hqlt (fun h => h)).trans hq7)]; rfl
      have y0 : w2.cell? ⟨y, 0, none⟩ = some (.slice none 0 0) := by rw [cell_of_block hyo]; rfl
      have y1 := free_of_block hyo 0
      have m3 := m_add (nd7 q).cl
      have m4 := f_add (nd7 q).cl
      have HY := Lib.hid (⟨hy, hl, ha, hyo, hraw2, hT2⟩ : _ ∧ _ ∧ _ ∧ _ ∧ _ ∧ _)
      clear hy hl ha hyo hraw2 hT2 hq7 ht7 hmp7
      by_cases hle : r.length ≤ m6
      · have hle' : (r.length : Int) ≤ (m6 : Int) := by omega
        clear hle
        go_wp2_with (first | go_step3 | with_reducible refine j3_i0 ?_ | with_reducible refine j3_i1 ?_ | with_reducible refine j3_i2 ?_ | with_reducible refine j1_i0 ?_)
        refine (put_add_call HP7.out.A HP7.out.hq HY.out.1 HY.out.2.2.2.1 HY.out.2.2.2.2.2 (by rfl) hpos (HP7.out.byte HR.out) (HP7.out.no HR.out)).mono ?_
        rintro e w4 ⟨cl', rfl, k1, k2, k3, k4, k5, k6, k7, k8⟩
        have hcl' := put_add_cells HP7.out.A HP7.out.hq (w4 := w4) (r := r) HY.out.1 HY.out.2.2.2.1 HY.out.2.2.2.2.2 k8 (by rfl)
        obtain ⟨v1, v2⟩ := hcl'
        have z1 : w4.cell? ⟨q, 4, none⟩ = some (.iface (nd7 q).cl.ty (ptr (nd7 q).cl.l)) := by rw [cell_of_block v1]; rfl
        have z2 := free_of_block v1 4
        have z3 : w4.cell? ⟨y, 1, none⟩ = some .nilIface := by rw [cell_of_block v2]; rfl
        have z4 := free_of_block v2 1
        have HPK := Lib.hid (⟨k1, k2, k3, k4, k5, k8⟩ : _ ∧ _ ∧ _ ∧ _ ∧ _ ∧ _)
        clear k1 k2 k3 k4 k5 k6 k7 k8 v1 v2 y0 y1 q4' c2' m3 m4
        simp only [CL.val]
        go_wp2_with (first | go_step3 | with_reducible refine j3_i0 ?_ | with_reducible refine j3_i1 ?_ | with_reducible refine j3_i2 ?_ | with_reducible refine j1_i0 ?_)
        all_goals
          first | rw [Exit.noGoto_ret] | rw [j1_r] | skip
          go_ret
          exact ApI.last HP7 HR i HM6 (by rfl) (by exact Tch.refl _ _) HY HPK
      · have hgt : m6 < r.length := by omega
        have hle' : ¬ (r.length : Int) ≤ (m6 : Int) := by omega
        have g1 : (0 : Int) ≤ (m6 : Int) := by omega
        have g2 : (m6 : Int) ≤ (sc : Int) := by omega
        have g3 : (m6 : Int) ≤ (r.length : Int) := by omega
        have g4 : ¬ sc = m6 := by omega
        have g5 : m6 ≤ sc := by omega
        have g6 : m6 ≤ r.length := by omega
        clear hle
        go_wp2_with (first | go_step3 | with_reducible refine j3_i0 ?_ | with_reducible refine j3_i1 ?_ | with_reducible refine j3_i2 ?_ | with_reducible refine j1_i0 ?_)
        refine (put_add_call (n := m6) HP7.out.A HP7.out.hq HY.out.1 HY.out.2.2.2.1 HY.out.2.2.2.2.2 (by rfl) h61 (HP7.out.byte HR.out) (HP7.out.no HR.out)).mono ?_
        rintro e w4 ⟨cl', rfl, k1, k2, k3, k4, k5, k6, k7, k8⟩
        have hlm : (r.take m6).length = m6 := by rw [List.length_take]; omega
        have hcl' := put_add_cells HP7.out.A HP7.out.hq (w4 := w4) (r := r.take m6) HY.out.1 HY.out.2.2.2.1 HY.out.2.2.2.2.2 (by rw [hlm]; exact k8) (by rfl)
        obtain ⟨v1, _⟩ := hcl'
        have z1 : w4.cell? ⟨q, 4, none⟩ = some (.iface (nd7 q).cl.ty (ptr (nd7 q).cl.l)) := by rw [cell_of_block v1]; rfl
        have z2 := free_of_block v1 4
        have HPK := Lib.hid (⟨k1, k2, k3, k4, k5, k8⟩ : _ ∧ _ ∧ _ ∧ _ ∧ _ ∧ _)
        clear k1 k2 k3 k4 k5 k6 k7 k8 v1 y0 y1 q4' c2' m3 m4 hlm
        simp only [CL.val]
        go_wp2_with (first | go_step3 | with_reducible refine j3_i0 ?_ | with_reducible refine j3_i1 ?_ | with_reducible refine j3_i2 ?_ | with_reducible refine j1_i0 ?_)
        have HN : Hid (ApE w t M O K kb kc (m6 : Int) y (r.drop m6) (so + m6) (sc - m6) (w4.setCell ⟨q, 4, none⟩ (.iface cl'.ty (ptr cl'.l)))) := ApI.more HP7 h61 hgt (by rfl) (by exact Tch.refl _ _) HY HPK
        go_roundw
        case rel => first | exact ⟨r.drop m6, so + m6, sc - m6, y, by rw [List.length_drop], rfl, HN⟩ | ((repeat apply Exists.intro); refine ⟨?_, rfl⟩; exact ⟨r.drop m6, so + m6, sc - m6, y, by rw [List.length_drop], rfl, HN⟩)
        case measure => simp [slen]; omega

end Go.Proofs.Ytmdbnjepajifpaa
