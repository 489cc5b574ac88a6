/- put, for tries of whatever shape. -/
import Derived.Test.YtmdbnjepajifpaaGPut1
import Derived.Test.YtmdbnjepajifpaaC3
set_option linter.unusedVariables false
set_option linter.unusedSimpArgs false
namespace Go.Proofs.Ytmdbnjepajifpaa
open Go.RowKit

/-- What the loop of put knows at a node. -/
def PutJ (root : Nat) (N : Nat → Prop) (nd : Nat → Nd) (wd : Nat → List UInt8) (w : World) (kb kc : Nat) (K : List UInt8) (q : Nat) (k : List UInt8) (o m : Nat) : Prop :=
  Srch root N nd wd K q k ∧ KS w kb o k ∧ o + k.length = K.length ∧ o + m ≤ kc ∧ k.length ≤ m

set_option maxHeartbeats 12800000 in
set_option maxRecDepth 100000 in
theorem put_gen (w : World) (t : Nat) (m0 : Nat) (hm0 : 1 ≤ m0) (rp : List UInt8) (M : List UInt8 → Option Int) (O : Nat → Prop) (HT : TrieAt w t 1 (m0 : Int) rp M O) (kb kc : Nat) (K : List UInt8) (hK : KeyAt w kb kc K) (hkb : ¬ O kb)
    (_hk0 : 0 < K.length) (hk1 : K.length ≤ 10) (i : Int) :
    Calls Try.prog 62 #[ptr t, .slice (some ⟨kb, 0, none⟩) K.length kc, .iface 3 (.int .i64 i), .bool false] w (PutX w t (m0 : Int) M O K i kb) := by
  obtain ⟨N, nd, wd, S, sh, A, L⟩ := HT
  have hroot := A.T.H t A.T.I.root_mem
  have c0 := hroot.sl A.T.rn
  have c2 := hroot.c2
  rw [A.mp] at c2
  have hnil := fun (W : World) (a : Addr) (n c : Nat) => Lib.run_eql_slice_nil (P := Try.prog) W 53 5 (some a) n c 0 0 Try.underlying53
  have HA := Lib.hid A
  have HLF := Lib.hid L
  have HK := Lib.hid hK
  have HKB := Lib.hid hkb
  clear A L hroot hK hkb
  go_enter Try.func62, Try.ntmps62
  go_wp2_with fail
  refine wp_scope3 rfl rfl rfl ?_
  intro J0 J1 J2 hJ0 hJ1 hJ2
  go_wp2_with fail
  go_loopw [1, 10] (fun key node wr => ∃ (k : List UInt8) (o m q n : Nat), key = .slice (some ⟨kb, o, none⟩) k.length m ∧ node = ptr q ∧ wr = w.drewN n ∧ k.length ≤ m ∧ k.length ≤ 10 ∧ Hid (PutJ t N nd wd w kb kc K q k o m))
    (fun key node _ => 2 * slen key + atRoot t node)
  case atStart => exact ⟨K, 0, kc, t, 0, rfl, rfl, rfl, HK.out.2.1, hk1, (⟨Srch.start HA.out.T.I K, HK.out.1, by omega, by omega, HK.out.2.1⟩ : PutJ t N nd wd w kb kc K t K 0 kc)⟩
  case round =>
    obtain ⟨k, o, m, q, n, rfl, rfl, rfl, hkm, hk10, HS⟩ := hrel
    have hN := HS.out.1.mem
    have hn := HA.out.T.H q hN
    have hnp := HA.out.T.np hN
    have hpx := HA.out.T.pxl hN
    obtain ⟨c, hc⟩ : ∃ c, lcp (nd q).px k = c := ⟨_, rfl⟩
    have hcl := lcp_le_left (nd q).px k
    have hcr := lcp_le_right (nd q).px k
    have hl := lcp_q w q kb o m (nd q) k hn hnp HS.out.2.1 (by omega) (by omega) n
    rw [hc] at hcl hcr hl
    have HL := Lib.hid hl
    have HC := Lib.hid hc
    have q0 := hn.sl hnp
    have q4 := hn.c4
    unfold CL.val at q4
    have Hn := Lib.hid hn
    clear hl hc hn hnp hN
    have m1 := m_next (nd q).cl
    have m2 := f_next (nd q).cl
    by_cases hsplit : c < (nd q).px.length
    · have g2 : (c : Int) < ((nd q).px.length : Int) := by omega
      have HJ2 := Lib.hid hJ2
      clear m1 m2 hJ2 q4
      by_cases hmc : m = c
      · subst m
        have hk0' : k.length - c = 0 := by omega
        have hwq : ∃ u, wd q = u ++ (nd q).px ∧ K = u ++ k := HS.out.1.cut
        obtain ⟨u, hu1, hu2⟩ := hwq
        have hlt := HS.out.1
        have hA0 : (nd q).px.take c ≠ [] ∨ q = t := by
          rcases HS.out.1.hd with h | h
          · exact .inr h
          · left
            intro e
            have h1 := congrArg List.length e
            rw [List.length_take] at h1
            simp only [List.length_nil] at h1
            have h2 : c = 0 := by omega
            rw [← HC.out] at h2
            have h3 := lcp_stop (nd q).px k (by omega) (by rw [h2]; cases hk' : k with
              | nil => rw [hk'] at h; simp at h
              | cons b k' => simp)
            rw [h2] at h3
            apply h3
            rw [← List.head?_eq_getElem?, ← List.head?_eq_getElem?, h]
            unfold Nd.fb
            cases hp : (nd q).px with
            | nil => rw [hp] at hsplit; simp at hsplit
            | cons b k' => simp
        have HQ := Lib.hid (⟨hu1, hu2, hA0⟩ : _ ∧ _ ∧ _)
        clear hu1 hu2 hlt hA0
        go_wp2_with (first | go_step3 | with_reducible refine j3_i0 ?_ | with_reducible refine j3_i1 ?_ | with_reducible refine j3_i2 ?_ | with_reducible refine j1_i0 ?_ | (go_at_call 70; refine HL.out.mono ?_; rintro e w' ⟨rfl, n1, rfl⟩))
        refine HJ2.out _ _ ?_
        have A1 := HA.out.dr (n + n1)
        have HS1 : Srch t N nd wd K q k ∧ KS (w.drewN (n + n1)) kb o k := ⟨HS.out.1, HS.out.2.1⟩
        have Hq1 := Hn.out.dr (n + n1)
        have hT1 := Tch.dr (w := w) (T := fun _ => False) (n + n1)
        have hh1 : (w.drewN (n + n1)).heap = w.heap := rfl
        generalize w.drewN (n + n1) = W at A1 HS1 Hq1 hT1 hh1 ⊢
        have q0 := Hq1.sl (A1.T.np HS1.1.mem)
        have q1 := Hq1.c1
        have q2 := Hq1.c2
        have q3 := Hq1.c3
        have q4 := Hq1.c4
        unfold CL.val at q4
        have hst := fun (W : World) (a : Addr) (md : Mode) => run_store Try.prog W a (itv (nd q).it) md (itv_one _)
        have hqal : ∀ (j : Nat) (o : Obj), (W.alloc o).cell? ⟨q, j, none⟩ = W.cell? ⟨q, j, none⟩ := fun j o => cell_alloc_lt Hq1.obj o 0 j
        have HA1 := Lib.hid A1
        have HS1 := Lib.hid HS1
        have Hq1 := Lib.hid Hq1
        have HT1 := Lib.hid (⟨hT1, hh1⟩ : _ ∧ _)
        clear A1 hT1 hh1
        go_wp2_with (first | go_step3 | with_reducible refine j3_i0 ?_ | with_reducible refine j3_i1 ?_ | with_reducible refine j3_i2 ?_ | with_reducible refine j1_i0 ?_ | (go_at_call 70; refine HL.out.mono ?_; rintro e w' ⟨rfl, n1, rfl⟩))
        clear q0 q1 q2 q3 q4 hst hqal c0 c2
        refine (newTrie_nil _).mono ?_
        rintro e w2 ⟨y, l, a, rfl, hy, hl, ha, hyo, hraw2, hT2⟩
        rw [World.size_alloc] at hy hl ha
        have hqlt : q < W.heap.size := lt_of_heap Hq1.out.obj
        have hyq : ¬ y = q := by omega
        have hyx : ¬ y = W.heap.size := by omega
        have hqx : ¬ q = W.heap.size := by omega
        have hxq : ¬ W.heap.size = q := by omega
        have e2 : w2.heap[q]? = some (nd q).obj := (hT2.keep q (by rw [World.size_alloc]; omega) (fun h => h)).trans (heap_al Hq1.out.obj)
        have e3 : w2.heap[W.heap.size]? = some (nd q).obj := by
          rw [hT2.keep W.heap.size (by rw [World.size_alloc]; omega) (fun h => h), heap_new, Nd.obj, Nd.pv, HA1.out.T.np HS1.out.1.mem]; rfl
        have y0 : w2.cell? ⟨y, 0, none⟩ = some (.slice none 0 0) := by rw [cell_of_block hyo]; rfl
        have y1 : w2.cell? ⟨y, 1, none⟩ = some .nilIface := by rw [cell_of_block hyo]; rfl
        have y2 : w2.cell? ⟨y, 2, none⟩ = some (.int .i64 10) := by rw [cell_of_block hyo]; rfl
        have y3 : w2.cell? ⟨y, 3, none⟩ = some (.int .i64 8) := by rw [cell_of_block hyo]; rfl
        have y4 : w2.cell? ⟨y, 4, none⟩ = some (.iface 102 (ptr l)) := by rw [cell_of_block hyo]; rfl
        have q0 : w2.cell? ⟨q, 0, none⟩ = some (nd q).pv := by rw [cell_of_block e2]; rfl
        have q1 : w2.cell? ⟨q, 1, none⟩ = some (itv (nd q).it) := by rw [cell_of_block e2]; rfl
        have q2 : w2.cell? ⟨q, 2, none⟩ = some (.int .i64 (nd q).mp) := by rw [cell_of_block e2]; rfl
        have q3 : w2.cell? ⟨q, 3, none⟩ = some (.int .i64 (nd q).mc) := by rw [cell_of_block e2]; rfl
        have q4 : w2.cell? ⟨q, 4, none⟩ = some (nd q).cl.val := by rw [cell_of_block e2]; rfl
        have x0 : w2.cell? ⟨W.heap.size, 0, none⟩ = some (.slice (some ⟨(nd q).sb, (nd q).so, none⟩) (nd q).px.length (nd q).sc) := by
          rw [cell_of_block e3, Nd.pv, HA1.out.T.np HS1.out.1.mem]; rfl
        have qf0 := free_of_block e2 0
        have qf1 := free_of_block e2 1
        have qf2 := free_of_block e2 2
        have qf3 := free_of_block e2 3
        have qf4 := free_of_block e2 4
        have xf := free_of_block e3 0
        have HE : Hid (SplitH W w2 N nd q W.heap.size y l a ((nd q).px.take c) ((nd q).px.drop c)) :=
          (⟨HS1.out.1.mem, rfl, (List.take_append_drop _ _).symm, fun h => by have := congrArg List.length h; rw [List.length_drop] at this; simp at this; omega, by omega, by omega, e2, e3, hraw2, ((Tch.refl W _).alloc _).trans hT2 (fun _ _ h => h)⟩ : SplitH W w2 N nd q W.heap.size y l a ((nd q).px.take c) ((nd q).px.drop c))
        have hsc := Hq1.out.le
        have hscc : ¬ (nd q).sc = c := by omega
        have hAc : ((nd q).px.take c).length = c := by rw [List.length_take]; omega
        clear hy hl ha hyo hraw2 hT2 e2 e3
        go_wp2_with (first | go_step3 | with_reducible refine j3_i0 ?_ | with_reducible refine j3_i1 ?_ | with_reducible refine j3_i2 ?_ | with_reducible refine j1_i0 ?_ | (go_at_call 70; refine HL.out.mono ?_; rintro e w' ⟨rfl, n1, rfl⟩))
        rw [splitW_eq]
        have hcomp := split_compactG HE.out HA1.out
        rw [hAc] at hcomp
        have HCOMP := Lib.hid hcomp
        clear hcomp q0 q1 q2 q3 q4 y0 y1 y2 y3 y4 qf0 qf1 qf2 qf3 qf4 x0 xf
        refine HCOMP.out.mono ?_
        intro e w3 hcp
        have hmth : ∀ w', (method 270 102 (.pointer (some ⟨l, 0, none⟩)) "loop.example/pub-patriciatries/pub/patricia.add").run Try.prog w' = .ok (112, .pointer (some ⟨l, 0, none⟩)) w' := fun w' => m_add (.sp l a 8 []) w'
        have HKA : Hid (KeyAt W kb kc K) := by
          obtain ⟨a1, a2, C, fr, a3, a4, a5⟩ := HK.out
          have e : W.heap[kb]? = w.heap[kb]? := by rw [HT1.out.2]
          exact (⟨fun j hj => by rw [World.cell?_of_block e]; exact a1 j hj, a2, C, fr, e.trans a3, a4, fun j hj => by rw [frozen_same e]; exact a5 j hj⟩ : KeyAt W kb kc K)
        have HTW : Hid (Tch w W (fun _ => False)) := HT1.out.1
        have HTL := Lib.hid HA.out.lt
        have HKL : Hid (kb < w.heap.size) := by
          obtain ⟨_, _, C, fr, h1, _⟩ := HK.out
          exact lt_of_heap h1
        rcases hcp with ⟨rfl, n2, rfl⟩ | ⟨cc, J⟩
        · have hadd := split_add HE.out HA1.out
          rw [hAc] at hadd
          have HADD := Lib.hid hadd
          have htop := ((HE.out.top HA1.out).dr n2).c4
          rw [hAc] at htop
          have q4 : ((splitW w2 q W.heap.size l (nd q) c).drewN n2).cell? ⟨q, 4, none⟩ = some (.iface 102 (ptr l)) := htop
          clear htop hadd
          go_wp2_with (first | go_step3 | with_reducible refine j3_i0 ?_ | with_reducible refine j3_i1 ?_ | with_reducible refine j3_i2 ?_ | with_reducible refine j1_i0 ?_)
          refine (HADD.out n2).mono ?_
          rintro e w5 ⟨cl', rfl, k1, k2, k3, k4, k5, k6, k7, k8⟩
          have k8' := k8
          rw [← hAc] at k8'
          have v1 := split_q4 HE.out HA1.out k8'
          have z1 : w5.cell? ⟨q, 4, none⟩ = some (.iface 102 (ptr l)) := by rw [cell_of_block v1]; rfl
          have z2 := free_of_block v1 4
          have hsw : (splitW w2 q W.heap.size l (nd q) c).heap.size = w2.heap.size := splitW_size
          have k4' : cl'.l = l ∨ w2.heap.size ≤ cl'.l := by rw [← hsw]; exact k4
          have k5' : cl'.a = a ∨ w2.heap.size ≤ cl'.a := by rw [← hsw]; exact k5
          have hsp := split_self HE.out HA1.out HLF.out HQ.out.1 HQ.out.2.2 ⟨k1, k2, k3, k4', k5', k8'⟩
          have HSP := Lib.hid hsp
          clear k1 k2 k3 k4 k5 k6 k7 k8 k8' k4' k5' hsw hsp v1 q4 hmth HADD
          simp only [CL.val]
          go_wp2_with (first | go_step3 | with_reducible refine j3_i0 ?_ | with_reducible refine j3_i1 ?_ | with_reducible refine j3_i2 ?_ | with_reducible refine j1_i0 ?_)
          have hsp := HSP.out
          clear HSP z1 z2
          simp only [CL.val] at hsp
          generalize w5.setCell ⟨q, 4, none⟩ (.iface cl'.ty (ptr cl'.l)) = W6 at hsp ⊢
          obtain ⟨mp6, hmp6, hE⟩ := ApE.split (r := []) (so := o) (sc := 0) hsp HTW.out HKA.out HKB.out HTL.out HKL.out hk1 (by
              have h := lcp_take (nd q).px k
              rw [HC.out] at h
              rw [List.append_nil, h, HQ.out.2.1, List.take_of_length_le (by omega)]) (fun h => absurd rfl h) (fun h => absurd rfl h) (fun h => absurd rfl h) (fun h => absurd rfl h)
          obtain ⟨m6, h6, h61⟩ : ∃ m6 : Nat, mp6 = (m6 : Int) ∧ 1 ≤ m6 := by
            rcases hmp6 with h | h
            · exact ⟨10, h, by omega⟩
            · exact ⟨m0, h, hm0⟩
          subst h6
          have HE6 := Lib.hid hE
          have HM6 := Lib.hid hmp6
          clear hE hsp hmp6
          go_loopw [1, 10] (fun key node wr => ∃ (r : List UInt8) (so sc q : Nat), key = .slice (some ⟨kb, so, none⟩) r.length sc ∧ node = ptr q ∧ Hid (ApE w t M O K kb kc (m6 : Int) q r so sc wr)) (fun key _ _ => slen key)
          case atStart => exact ⟨[], o, 0, q, rfl, rfl, HE6⟩
          case round =>
            obtain ⟨r, so, sc, q, rfl, rfl, HP⟩ := hrel
            by_cases hr : r = []
            · subst hr
              obtain ⟨rp7, O7, N7, nd7, wd7, S7, sh7, P7⟩ := HP.out
              have z1 := (P7.A.T.H q P7.hq).c1
              rw [P7.lq rfl] at z1
              simp only [itv] at z1
              have z2 := (P7.A.T.H q P7.hq).fr 1
              have HP7 := Lib.hid P7
              clear P7
              go_wp2_with (first | go_step3 | with_reducible refine j3_i0 ?_ | with_reducible refine j3_i1 ?_ | with_reducible refine j3_i2 ?_ | with_reducible refine j1_i0 ?_)
              all_goals
                first | rw [Exit.noGoto_ret] | rw [j1_r] | skip
                go_ret
                exact HP7.out.item i HM6.out 0
            · obtain ⟨rp7, O7, N7, nd7, wd7, S7, sh7, P7⟩ := HP.out
              have hpos : 0 < r.length := List.length_pos_iff.2 hr
              have hnz : ((r.length : Int) != 0) = true := by rw [bne_iff_ne]; omega
              have hr10 : r.length ≤ 10 := by have h1 := P7.eK; have h2 := P7.K10; rw [h1, List.length_append] at h2; omega
              have hrs := P7.hrs hr
              have hq7 := (P7.A.T.H q P7.hq).obj
              have hqlt := lt_of_heap hq7
              have htlt := lt_of_heap (P7.A.T.H t P7.A.T.I.root_mem).obj
              have ht7 := (P7.A.T.H t P7.A.T.I.root_mem).obj
              have hmp7 := P7.A.mp
              have HP7 := Lib.hid P7
              have HR := Lib.hid hr
              clear P7 hr
              go_wp2_with (first | go_step3 | with_reducible refine j3_i0 ?_ | with_reducible refine j3_i1 ?_ | with_reducible refine j3_i2 ?_ | with_reducible refine j1_i0 ?_)
              refine (newTrie_nil _).mono ?_
              rintro e w2 ⟨y, l, a, rfl, hy, hl, ha, hyo, hraw2, hT2⟩
              have hy' : wr.heap.size ≤ y := hy
              have hyq : ¬ y = q := by omega
              have hyt : ¬ y = t := by omega
              have c2' : w2.cell? ⟨t, 2, none⟩ = some (.int .i64 (m6 : Int)) := by
                rw [cell_of_block ((hT2.keep t htlt (fun h => h)).trans ht7)]
                show some (Value.int .i64 (nd7 t).mp) = _
                rw [hmp7]
              have q4' : w2.cell? ⟨q, 4, none⟩ = some (.iface (nd7 q).cl.ty (ptr (nd7 q).cl.l)) := by rw [cell_of_block ((hT2.keep q hqlt (fun h => h)).trans hq7)]; rfl
              have y0 : w2.cell? ⟨y, 0, none⟩ = some (.slice none 0 0) := by rw [cell_of_block hyo]; rfl
              have y1 := free_of_block hyo 0
              have m3 := m_add (nd7 q).cl
              have m4 := f_add (nd7 q).cl
              have HY := Lib.hid (⟨hy, hl, ha, hyo, hraw2, hT2⟩ : _ ∧ _ ∧ _ ∧ _ ∧ _ ∧ _)
              clear hy hl ha hyo hraw2 hT2 hq7 ht7 hmp7
              by_cases hle : r.length ≤ m6
              · have hle' : (r.length : Int) ≤ (m6 : Int) := by omega
                clear hle
                go_wp2_with (first | go_step3 | with_reducible refine j3_i0 ?_ | with_reducible refine j3_i1 ?_ | with_reducible refine j3_i2 ?_ | with_reducible refine j1_i0 ?_)
                refine (put_add_call HP7.out.A HP7.out.hq HY.out.1 HY.out.2.2.2.1 HY.out.2.2.2.2.2 (by rfl) hpos (HP7.out.byte HR.out) (HP7.out.no HR.out)).mono ?_
                rintro e w4 ⟨cl', rfl, k1, k2, k3, k4, k5, k6, k7, k8⟩
                have hcl' := put_add_cells HP7.out.A HP7.out.hq (w4 := w4) (r := r) HY.out.1 HY.out.2.2.2.1 HY.out.2.2.2.2.2 k8 (by rfl)
                obtain ⟨v1, v2⟩ := hcl'
                have z1 : w4.cell? ⟨q, 4, none⟩ = some (.iface (nd7 q).cl.ty (ptr (nd7 q).cl.l)) := by rw [cell_of_block v1]; rfl
                have z2 := free_of_block v1 4
                have z3 : w4.cell? ⟨y, 1, none⟩ = some .nilIface := by rw [cell_of_block v2]; rfl
                have z4 := free_of_block v2 1
                have HPK := Lib.hid (⟨k1, k2, k3, k4, k5, k8⟩ : _ ∧ _ ∧ _ ∧ _ ∧ _ ∧ _)
                clear k1 k2 k3 k4 k5 k6 k7 k8 v1 v2 y0 y1 q4' c2' m3 m4
                simp only [CL.val]
                go_wp2_with (first | go_step3 | with_reducible refine j3_i0 ?_ | with_reducible refine j3_i1 ?_ | with_reducible refine j3_i2 ?_ | with_reducible refine j1_i0 ?_)
                all_goals
                  first | rw [Exit.noGoto_ret] | rw [j1_r] | skip
                  go_ret
                  exact ApI.last HP7 HR i HM6 (by rfl) (by exact Tch.refl _ _) HY HPK
              · have hgt : m6 < r.length := by omega
                have hle' : ¬ (r.length : Int) ≤ (m6 : Int) := by omega
                have g1 : (0 : Int) ≤ (m6 : Int) := by omega
                have g2 : (m6 : Int) ≤ (sc : Int) := by omega
                have g3 : (m6 : Int) ≤ (r.length : Int) := by omega
                have g4 : ¬ sc = m6 := by omega
                have g5 : m6 ≤ sc := by omega
                have g6 : m6 ≤ r.length := by omega
                clear hle
                go_wp2_with (first | go_step3 | with_reducible refine j3_i0 ?_ | with_reducible refine j3_i1 ?_ | with_reducible refine j3_i2 ?_ | with_reducible refine j1_i0 ?_)
                refine (put_add_call (n := m6) HP7.out.A HP7.out.hq HY.out.1 HY.out.2.2.2.1 HY.out.2.2.2.2.2 (by rfl) h61 (HP7.out.byte HR.out) (HP7.out.no HR.out)).mono ?_
                rintro e w4 ⟨cl', rfl, k1, k2, k3, k4, k5, k6, k7, k8⟩
                have hlm : (r.take m6).length = m6 := by rw [List.length_take]; omega
                have hcl' := put_add_cells HP7.out.A HP7.out.hq (w4 := w4) (r := r.take m6) HY.out.1 HY.out.2.2.2.1 HY.out.2.2.2.2.2 (by rw [hlm]; exact k8) (by rfl)
                obtain ⟨v1, _⟩ := hcl'
                have z1 : w4.cell? ⟨q, 4, none⟩ = some (.iface (nd7 q).cl.ty (ptr (nd7 q).cl.l)) := by rw [cell_of_block v1]; rfl
                have z2 := free_of_block v1 4
                have HPK := Lib.hid (⟨k1, k2, k3, k4, k5, k8⟩ : _ ∧ _ ∧ _ ∧ _ ∧ _ ∧ _)
                clear k1 k2 k3 k4 k5 k6 k7 k8 v1 y0 y1 q4' c2' m3 m4 hlm
                simp only [CL.val]
                go_wp2_with (first | go_step3 | with_reducible refine j3_i0 ?_ | with_reducible refine j3_i1 ?_ | with_reducible refine j3_i2 ?_ | with_reducible refine j1_i0 ?_)
                have HN : Hid (ApE w t M O K kb kc (m6 : Int) y (r.drop m6) (so + m6) (sc - m6) (w4.setCell ⟨q, 4, none⟩ (.iface cl'.ty (ptr cl'.l)))) := ApI.more HP7 h61 hgt (by rfl) (by exact Tch.refl _ _) HY HPK
                go_roundw
                case rel => first | exact ⟨r.drop m6, so + m6, sc - m6, y, by rw [List.length_drop], rfl, HN⟩ | ((repeat apply Exists.intro); refine ⟨?_, rfl⟩; exact ⟨r.drop m6, so + m6, sc - m6, y, by rw [List.length_drop], rfl, HN⟩)
                case measure => simp [slen]; omega
        · obtain ⟨je, hraw3, hq3, hfin⟩ := split_join HE.out HA1.out HLF.out HQ.out.1 HQ.out.2.2 (by rw [hAc]; exact J)
          subst je
          have q4 : w3.cell? ⟨q, 4, none⟩ = some (.iface 102 (ptr l)) := by rw [cell_of_block hq3]; rfl
          have HFIN := Lib.hid hfin
          have HADD := Lib.hid (sp_add_roomX w3 l a 8 [] cc hraw3 (by simp))
          have HQ3 := Lib.hid hq3
          have HLA : Hid (l ≠ q ∧ a ≠ q) := (⟨by have := HE.out.hl; omega, by have := HE.out.ha; omega⟩ : l ≠ q ∧ a ≠ q)
          clear J hraw3 hq3 hfin
          go_wp2_with (first | go_step3 | with_reducible refine j3_i0 ?_ | with_reducible refine j3_i1 ?_ | with_reducible refine j3_i2 ?_ | with_reducible refine j1_i0 ?_)
          refine HADD.out.mono ?_
          rintro e w5 hX
          have v1 := (hX.2.2.keep q (lt_of_heap HQ3.out) (fun h => by rcases h with h | h; exact HLA.out.1 h.symm; exact HLA.out.2 h.symm)).trans HQ3.out
          have z1 : w5.cell? ⟨q, 4, none⟩ = some (.iface 102 (ptr l)) := by rw [cell_of_block v1]; rfl
          have z2 := free_of_block v1 4
          have hsp : SplitR W t (m0 : Int) M O q u ((nd q).px.take c) ((nd q).px.drop c) (w5.setCell ⟨q, 4, none⟩ (.iface 102 (.pointer (some ⟨l, 0, none⟩)))) := HFIN.out e w5 hX
          have he : e = .returned (.iface 102 (.pointer (some ⟨l, 0, none⟩))) := hX.1
          subst he
          have HSP := Lib.hid hsp
          clear hsp v1 q4 hmth HADD hX
          go_wp2_with (first | go_step3 | with_reducible refine j3_i0 ?_ | with_reducible refine j3_i1 ?_ | with_reducible refine j3_i2 ?_ | with_reducible refine j1_i0 ?_)
          have hsp := HSP.out
          clear HSP z1 z2
          generalize w5.setCell ⟨q, 4, none⟩ (.iface 102 (.pointer (some ⟨l, 0, none⟩))) = W6 at hsp ⊢
          obtain ⟨mp6, hmp6, hE⟩ := ApE.split (r := []) (so := o) (sc := 0) hsp HTW.out HKA.out HKB.out HTL.out HKL.out hk1 (by
              have h := lcp_take (nd q).px k
              rw [HC.out] at h
              rw [List.append_nil, h, HQ.out.2.1, List.take_of_length_le (by omega)]) (fun h => absurd rfl h) (fun h => absurd rfl h) (fun h => absurd rfl h) (fun h => absurd rfl h)
          obtain ⟨m6, h6, h61⟩ : ∃ m6 : Nat, mp6 = (m6 : Int) ∧ 1 ≤ m6 := by
            rcases hmp6 with h | h
            · exact ⟨10, h, by omega⟩
            · exact ⟨m0, h, hm0⟩
          subst h6
          have HE6 := Lib.hid hE
          have HM6 := Lib.hid hmp6
          clear hE hsp hmp6
          go_loopw [1, 10] (fun key node wr => ∃ (r : List UInt8) (so sc q : Nat), key = .slice (some ⟨kb, so, none⟩) r.length sc ∧ node = ptr q ∧ Hid (ApE w t M O K kb kc (m6 : Int) q r so sc wr)) (fun key _ _ => slen key)
          case atStart => exact ⟨[], o, 0, q, rfl, rfl, HE6⟩
          case round =>
            obtain ⟨r, so, sc, q, rfl, rfl, HP⟩ := hrel
            by_cases hr : r = []
            · subst hr
              obtain ⟨rp7, O7, N7, nd7, wd7, S7, sh7, P7⟩ := HP.out
              have z1 := (P7.A.T.H q P7.hq).c1
              rw [P7.lq rfl] at z1
              simp only [itv] at z1
              have z2 := (P7.A.T.H q P7.hq).fr 1
              have HP7 := Lib.hid P7
              clear P7
              go_wp2_with (first | go_step3 | with_reducible refine j3_i0 ?_ | with_reducible refine j3_i1 ?_ | with_reducible refine j3_i2 ?_ | with_reducible refine j1_i0 ?_)
              all_goals
                first | rw [Exit.noGoto_ret] | rw [j1_r] | skip
                go_ret
                exact HP7.out.item i HM6.out 0
            · obtain ⟨rp7, O7, N7, nd7, wd7, S7, sh7, P7⟩ := HP.out
              have hpos : 0 < r.length := List.length_pos_iff.2 hr
              have hnz : ((r.length : Int) != 0) = true := by rw [bne_iff_ne]; omega
              have hr10 : r.length ≤ 10 := by have h1 := P7.eK; have h2 := P7.K10; rw [h1, List.length_append] at h2; omega
              have hrs := P7.hrs hr
              have hq7 := (P7.A.T.H q P7.hq).obj
              have hqlt := lt_of_heap hq7
              have htlt := lt_of_heap (P7.A.T.H t P7.A.T.I.root_mem).obj
              have ht7 := (P7.A.T.H t P7.A.T.I.root_mem).obj
              have hmp7 := P7.A.mp
              have HP7 := Lib.hid P7
              have HR := Lib.hid hr
              clear P7 hr
              go_wp2_with (first | go_step3 | with_reducible refine j3_i0 ?_ | with_reducible refine j3_i1 ?_ | with_reducible refine j3_i2 ?_ | with_reducible refine j1_i0 ?_)
              refine (newTrie_nil _).mono ?_
              rintro e w2 ⟨y, l, a, rfl, hy, hl, ha, hyo, hraw2, hT2⟩
              have hy' : wr.heap.size ≤ y := hy
              have hyq : ¬ y = q := by omega
              have hyt : ¬ y = t := by omega
              have c2' : w2.cell? ⟨t, 2, none⟩ = some (.int .i64 (m6 : Int)) := by
                rw [cell_of_block ((hT2.keep t htlt (fun h => h)).trans ht7)]
                show some (Value.int .i64 (nd7 t).mp) = _
                rw [hmp7]
              have q4' : w2.cell? ⟨q, 4, none⟩ = some (.iface (nd7 q).cl.ty (ptr (nd7 q).cl.l)) := by rw [cell_of_block ((hT2.keep q hqlt (fun h => h)).trans hq7)]; rfl
              have y0 : w2.cell? ⟨y, 0, none⟩ = some (.slice none 0 0) := by rw [cell_of_block hyo]; rfl
              have y1 := free_of_block hyo 0
              have m3 := m_add (nd7 q).cl
              have m4 := f_add (nd7 q).cl
              have HY := Lib.hid (⟨hy, hl, ha, hyo, hraw2, hT2⟩ : _ ∧ _ ∧ _ ∧ _ ∧ _ ∧ _)
              clear hy hl ha hyo hraw2 hT2 hq7 ht7 hmp7
              by_cases hle : r.length ≤ m6
              · have hle' : (r.length : Int) ≤ (m6 : Int) := by omega
                clear hle
                go_wp2_with (first | go_step3 | with_reducible refine j3_i0 ?_ | with_reducible refine j3_i1 ?_ | with_reducible refine j3_i2 ?_ | with_reducible refine j1_i0 ?_)
                refine (put_add_call HP7.out.A HP7.out.hq HY.out.1 HY.out.2.2.2.1 HY.out.2.2.2.2.2 (by rfl) hpos (HP7.out.byte HR.out) (HP7.out.no HR.out)).mono ?_
                rintro e w4 ⟨cl', rfl, k1, k2, k3, k4, k5, k6, k7, k8⟩
                have hcl' := put_add_cells HP7.out.A HP7.out.hq (w4 := w4) (r := r) HY.out.1 HY.out.2.2.2.1 HY.out.2.2.2.2.2 k8 (by rfl)
                obtain ⟨v1, v2⟩ := hcl'
                have z1 : w4.cell? ⟨q, 4, none⟩ = some (.iface (nd7 q).cl.ty (ptr (nd7 q).cl.l)) := by rw [cell_of_block v1]; rfl
                have z2 := free_of_block v1 4
                have z3 : w4.cell? ⟨y, 1, none⟩ = some .nilIface := by rw [cell_of_block v2]; rfl
                have z4 := free_of_block v2 1
                have HPK := Lib.hid (⟨k1, k2, k3, k4, k5, k8⟩ : _ ∧ _ ∧ _ ∧ _ ∧ _ ∧ _)
                clear k1 k2 k3 k4 k5 k6 k7 k8 v1 v2 y0 y1 q4' c2' m3 m4
                simp only [CL.val]
                go_wp2_with (first | go_step3 | with_reducible refine j3_i0 ?_ | with_reducible refine j3_i1 ?_ | with_reducible refine j3_i2 ?_ | with_reducible refine j1_i0 ?_)
                all_goals
                  first | rw [Exit.noGoto_ret] | rw [j1_r] | skip
                  go_ret
                  exact ApI.last HP7 HR i HM6 (by rfl) (by exact Tch.refl _ _) HY HPK
              · have hgt : m6 < r.length := by omega
                have hle' : ¬ (r.length : Int) ≤ (m6 : Int) := by omega
                have g1 : (0 : Int) ≤ (m6 : Int) := by omega
                have g2 : (m6 : Int) ≤ (sc : Int) := by omega
                have g3 : (m6 : Int) ≤ (r.length : Int) := by omega
                have g4 : ¬ sc = m6 := by omega
                have g5 : m6 ≤ sc := by omega
                have g6 : m6 ≤ r.length := by omega
                clear hle
                go_wp2_with (first | go_step3 | with_reducible refine j3_i0 ?_ | with_reducible refine j3_i1 ?_ | with_reducible refine j3_i2 ?_ | with_reducible refine j1_i0 ?_)
                refine (put_add_call (n := m6) HP7.out.A HP7.out.hq HY.out.1 HY.out.2.2.2.1 HY.out.2.2.2.2.2 (by rfl) h61 (HP7.out.byte HR.out) (HP7.out.no HR.out)).mono ?_
                rintro e w4 ⟨cl', rfl, k1, k2, k3, k4, k5, k6, k7, k8⟩
                have hlm : (r.take m6).length = m6 := by rw [List.length_take]; omega
                have hcl' := put_add_cells HP7.out.A HP7.out.hq (w4 := w4) (r := r.take m6) HY.out.1 HY.out.2.2.2.1 HY.out.2.2.2.2.2 (by rw [hlm]; exact k8) (by rfl)
                obtain ⟨v1, _⟩ := hcl'
                have z1 : w4.cell? ⟨q, 4, none⟩ = some (.iface (nd7 q).cl.ty (ptr (nd7 q).cl.l)) := by rw [cell_of_block v1]; rfl
                have z2 := free_of_block v1 4
                have HPK := Lib.hid (⟨k1, k2, k3, k4, k5, k8⟩ : _ ∧ _ ∧ _ ∧ _ ∧ _ ∧ _)
                clear k1 k2 k3 k4 k5 k6 k7 k8 v1 y0 y1 q4' c2' m3 m4 hlm
                simp only [CL.val]
                go_wp2_with (first | go_step3 | with_reducible refine j3_i0 ?_ | with_reducible refine j3_i1 ?_ | with_reducible refine j3_i2 ?_ | with_reducible refine j1_i0 ?_)
                have HN : Hid (ApE w t M O K kb kc (m6 : Int) y (r.drop m6) (so + m6) (sc - m6) (w4.setCell ⟨q, 4, none⟩ (.iface cl'.ty (ptr cl'.l)))) := ApI.more HP7 h61 hgt (by rfl) (by exact Tch.refl _ _) HY HPK
                go_roundw
                case rel => first | exact ⟨r.drop m6, so + m6, sc - m6, y, by rw [List.length_drop], rfl, HN⟩ | ((repeat apply Exists.intro); refine ⟨?_, rfl⟩; exact ⟨r.drop m6, so + m6, sc - m6, y, by rw [List.length_drop], rfl, HN⟩)
                case measure => simp [slen]; omega
      · have g3 : ¬ m = c := hmc
        have hwq : ∃ u, wd q = u ++ (nd q).px ∧ K = u ++ k := HS.out.1.cut
        obtain ⟨u, hu1, hu2⟩ := hwq
        have hlt := HS.out.1
        have hA0 : (nd q).px.take c ≠ [] ∨ q = t := by
          rcases HS.out.1.hd with h | h
          · exact .inr h
          · left
            intro e
            have h1 := congrArg List.length e
            rw [List.length_take] at h1
            simp only [List.length_nil] at h1
            have h2 : c = 0 := by omega
            rw [← HC.out] at h2
            have h3 := lcp_stop (nd q).px k (by omega) (by rw [h2]; cases hk' : k with
              | nil => rw [hk'] at h; simp at h
              | cons b k' => simp)
            rw [h2] at h3
            apply h3
            rw [← List.head?_eq_getElem?, ← List.head?_eq_getElem?, h]
            unfold Nd.fb
            cases hp : (nd q).px with
            | nil => rw [hp] at hsplit; simp at hsplit
            | cons b k' => simp
        have HQ := Lib.hid (⟨hu1, hu2, hA0⟩ : _ ∧ _ ∧ _)
        clear hu1 hu2 hlt hA0
        go_wp2_with (first | go_step3 | with_reducible refine j3_i0 ?_ | with_reducible refine j3_i1 ?_ | with_reducible refine j3_i2 ?_ | with_reducible refine j1_i0 ?_ | (go_at_call 70; refine HL.out.mono ?_; rintro e w' ⟨rfl, n1, rfl⟩))
        refine HJ2.out _ _ ?_
        have A1 := HA.out.dr (n + n1)
        have HS1 : Srch t N nd wd K q k ∧ KS (w.drewN (n + n1)) kb o k := ⟨HS.out.1, HS.out.2.1⟩
        have Hq1 := Hn.out.dr (n + n1)
        have hT1 := Tch.dr (w := w) (T := fun _ => False) (n + n1)
        have hh1 : (w.drewN (n + n1)).heap = w.heap := rfl
        generalize w.drewN (n + n1) = W at A1 HS1 Hq1 hT1 hh1 ⊢
        have q0 := Hq1.sl (A1.T.np HS1.1.mem)
        have q1 := Hq1.c1
        have q2 := Hq1.c2
        have q3 := Hq1.c3
        have q4 := Hq1.c4
        unfold CL.val at q4
        have hst := fun (W : World) (a : Addr) (md : Mode) => run_store Try.prog W a (itv (nd q).it) md (itv_one _)
        have hqal : ∀ (j : Nat) (o : Obj), (W.alloc o).cell? ⟨q, j, none⟩ = W.cell? ⟨q, j, none⟩ := fun j o => cell_alloc_lt Hq1.obj o 0 j
        have HA1 := Lib.hid A1
        have HS1 := Lib.hid HS1
        have Hq1 := Lib.hid Hq1
        have HT1 := Lib.hid (⟨hT1, hh1⟩ : _ ∧ _)
        clear A1 hT1 hh1
        go_wp2_with (first | go_step3 | with_reducible refine j3_i0 ?_ | with_reducible refine j3_i1 ?_ | with_reducible refine j3_i2 ?_ | with_reducible refine j1_i0 ?_ | (go_at_call 70; refine HL.out.mono ?_; rintro e w' ⟨rfl, n1, rfl⟩))
        clear q0 q1 q2 q3 q4 hst hqal c0 c2
        refine (newTrie_nil _).mono ?_
        rintro e w2 ⟨y, l, a, rfl, hy, hl, ha, hyo, hraw2, hT2⟩
        rw [World.size_alloc] at hy hl ha
        have hqlt : q < W.heap.size := lt_of_heap Hq1.out.obj
        have hyq : ¬ y = q := by omega
        have hyx : ¬ y = W.heap.size := by omega
        have hqx : ¬ q = W.heap.size := by omega
        have hxq : ¬ W.heap.size = q := by omega
        have e2 : w2.heap[q]? = some (nd q).obj := (hT2.keep q (by rw [World.size_alloc]; omega) (fun h => h)).trans (heap_al Hq1.out.obj)
        have e3 : w2.heap[W.heap.size]? = some (nd q).obj := by
          rw [hT2.keep W.heap.size (by rw [World.size_alloc]; omega) (fun h => h), heap_new, Nd.obj, Nd.pv, HA1.out.T.np HS1.out.1.mem]; rfl
        have y0 : w2.cell? ⟨y, 0, none⟩ = some (.slice none 0 0) := by rw [cell_of_block hyo]; rfl
        have y1 : w2.cell? ⟨y, 1, none⟩ = some .nilIface := by rw [cell_of_block hyo]; rfl
        have y2 : w2.cell? ⟨y, 2, none⟩ = some (.int .i64 10) := by rw [cell_of_block hyo]; rfl
        have y3 : w2.cell? ⟨y, 3, none⟩ = some (.int .i64 8) := by rw [cell_of_block hyo]; rfl
        have y4 : w2.cell? ⟨y, 4, none⟩ = some (.iface 102 (ptr l)) := by rw [cell_of_block hyo]; rfl
        have q0 : w2.cell? ⟨q, 0, none⟩ = some (nd q).pv := by rw [cell_of_block e2]; rfl
        have q1 : w2.cell? ⟨q, 1, none⟩ = some (itv (nd q).it) := by rw [cell_of_block e2]; rfl
        have q2 : w2.cell? ⟨q, 2, none⟩ = some (.int .i64 (nd q).mp) := by rw [cell_of_block e2]; rfl
        have q3 : w2.cell? ⟨q, 3, none⟩ = some (.int .i64 (nd q).mc) := by rw [cell_of_block e2]; rfl
        have q4 : w2.cell? ⟨q, 4, none⟩ = some (nd q).cl.val := by rw [cell_of_block e2]; rfl
        have x0 : w2.cell? ⟨W.heap.size, 0, none⟩ = some (.slice (some ⟨(nd q).sb, (nd q).so, none⟩) (nd q).px.length (nd q).sc) := by
          rw [cell_of_block e3, Nd.pv, HA1.out.T.np HS1.out.1.mem]; rfl
        have qf0 := free_of_block e2 0
        have qf1 := free_of_block e2 1
        have qf2 := free_of_block e2 2
        have qf3 := free_of_block e2 3
        have qf4 := free_of_block e2 4
        have xf := free_of_block e3 0
        have HE : Hid (SplitH W w2 N nd q W.heap.size y l a ((nd q).px.take c) ((nd q).px.drop c)) :=
          (⟨HS1.out.1.mem, rfl, (List.take_append_drop _ _).symm, fun h => by have := congrArg List.length h; rw [List.length_drop] at this; simp at this; omega, by omega, by omega, e2, e3, hraw2, ((Tch.refl W _).alloc _).trans hT2 (fun _ _ h => h)⟩ : SplitH W w2 N nd q W.heap.size y l a ((nd q).px.take c) ((nd q).px.drop c))
        have hsc := Hq1.out.le
        have hscc : ¬ (nd q).sc = c := by omega
        have hAc : ((nd q).px.take c).length = c := by rw [List.length_take]; omega
        clear hy hl ha hyo hraw2 hT2 e2 e3
        go_wp2_with (first | go_step3 | with_reducible refine j3_i0 ?_ | with_reducible refine j3_i1 ?_ | with_reducible refine j3_i2 ?_ | with_reducible refine j1_i0 ?_ | (go_at_call 70; refine HL.out.mono ?_; rintro e w' ⟨rfl, n1, rfl⟩))
        rw [splitW_eq]
        have hcomp := split_compactG HE.out HA1.out
        rw [hAc] at hcomp
        have HCOMP := Lib.hid hcomp
        clear hcomp q0 q1 q2 q3 q4 y0 y1 y2 y3 y4 qf0 qf1 qf2 qf3 qf4 x0 xf
        refine HCOMP.out.mono ?_
        intro e w3 hcp
        have hmth : ∀ w', (method 270 102 (.pointer (some ⟨l, 0, none⟩)) "loop.example/pub-patriciatries/pub/patricia.add").run Try.prog w' = .ok (112, .pointer (some ⟨l, 0, none⟩)) w' := fun w' => m_add (.sp l a 8 []) w'
        have HKA : Hid (KeyAt W kb kc K) := by
          obtain ⟨a1, a2, C, fr, a3, a4, a5⟩ := HK.out
          have e : W.heap[kb]? = w.heap[kb]? := by rw [HT1.out.2]
          exact (⟨fun j hj => by rw [World.cell?_of_block e]; exact a1 j hj, a2, C, fr, e.trans a3, a4, fun j hj => by rw [frozen_same e]; exact a5 j hj⟩ : KeyAt W kb kc K)
        have HTW : Hid (Tch w W (fun _ => False)) := HT1.out.1
        have HTL := Lib.hid HA.out.lt
        have HKL : Hid (kb < w.heap.size) := by
          obtain ⟨_, _, C, fr, h1, _⟩ := HK.out
          exact lt_of_heap h1
        rcases hcp with ⟨rfl, n2, rfl⟩ | ⟨cc, J⟩
        · have hadd := split_add HE.out HA1.out
          rw [hAc] at hadd
          have HADD := Lib.hid hadd
          have htop := ((HE.out.top HA1.out).dr n2).c4
          rw [hAc] at htop
          have q4 : ((splitW w2 q W.heap.size l (nd q) c).drewN n2).cell? ⟨q, 4, none⟩ = some (.iface 102 (ptr l)) := htop
          clear htop hadd
          go_wp2_with (first | go_step3 | with_reducible refine j3_i0 ?_ | with_reducible refine j3_i1 ?_ | with_reducible refine j3_i2 ?_ | with_reducible refine j1_i0 ?_)
          refine (HADD.out n2).mono ?_
          rintro e w5 ⟨cl', rfl, k1, k2, k3, k4, k5, k6, k7, k8⟩
          have k8' := k8
          rw [← hAc] at k8'
          have v1 := split_q4 HE.out HA1.out k8'
          have z1 : w5.cell? ⟨q, 4, none⟩ = some (.iface 102 (ptr l)) := by rw [cell_of_block v1]; rfl
          have z2 := free_of_block v1 4
          have hsw : (splitW w2 q W.heap.size l (nd q) c).heap.size = w2.heap.size := splitW_size
          have k4' : cl'.l = l ∨ w2.heap.size ≤ cl'.l := by rw [← hsw]; exact k4
          have k5' : cl'.a = a ∨ w2.heap.size ≤ cl'.a := by rw [← hsw]; exact k5
          have hsp := split_self HE.out HA1.out HLF.out HQ.out.1 HQ.out.2.2 ⟨k1, k2, k3, k4', k5', k8'⟩
          have HSP := Lib.hid hsp
          clear k1 k2 k3 k4 k5 k6 k7 k8 k8' k4' k5' hsw hsp v1 q4 hmth HADD
          simp only [CL.val]
          go_wp2_with (first | go_step3 | with_reducible refine j3_i0 ?_ | with_reducible refine j3_i1 ?_ | with_reducible refine j3_i2 ?_ | with_reducible refine j1_i0 ?_)
          have hsp := HSP.out
          clear HSP z1 z2
          simp only [CL.val] at hsp
          generalize w5.setCell ⟨q, 4, none⟩ (.iface cl'.ty (ptr cl'.l)) = W6 at hsp ⊢
          obtain ⟨mp6, hmp6, hE⟩ := ApE.split (r := k.drop c) (so := o + c) (sc := m - c) hsp HTW.out HKA.out HKB.out HTL.out HKL.out hk1 (by
              have h := lcp_take (nd q).px k
              rw [HC.out] at h
              rw [h, HQ.out.2.1, List.append_assoc, List.take_append_drop]) (fun _ => by rw [List.length_drop]; have := HS.out.2.2.1; omega) (fun _ => by have := HS.out.2.2.2.1; omega) (fun _ => by rw [List.length_drop]; omega) (fun hne => by
              have hck : c < k.length := by
                rcases Nat.lt_or_ge c k.length with h | h
                · exact h
                · exact absurd (List.drop_eq_nil_of_le h) hne
              have hst := lcp_stop (nd q).px k (by rw [HC.out]; exact hsplit) (by rw [HC.out]; exact hck)
              rw [HC.out] at hst
              intro e
              apply hst
              have f : ∀ (l : List UInt8), c < l.length → l[c]? = some ((l.drop c).headD 0) := fun l hl => by
                rw [List.getElem?_eq_getElem hl, List.drop_eq_getElem_cons hl]; rfl
              rw [f _ hsplit, f _ hck, e])
          obtain ⟨m6, h6, h61⟩ : ∃ m6 : Nat, mp6 = (m6 : Int) ∧ 1 ≤ m6 := by
            rcases hmp6 with h | h
            · exact ⟨10, h, by omega⟩
            · exact ⟨m0, h, hm0⟩
          subst h6
          have HE6 := Lib.hid hE
          have HM6 := Lib.hid hmp6
          clear hE hsp hmp6
          go_loopw [1, 10] (fun key node wr => ∃ (r : List UInt8) (so sc q : Nat), key = .slice (some ⟨kb, so, none⟩) r.length sc ∧ node = ptr q ∧ Hid (ApE w t M O K kb kc (m6 : Int) q r so sc wr)) (fun key _ _ => slen key)
          case atStart => exact ⟨k.drop c, o + c, m - c, q, by rw [List.length_drop], rfl, HE6⟩
          case round =>
            obtain ⟨r, so, sc, q, rfl, rfl, HP⟩ := hrel
            by_cases hr : r = []
            · subst hr
              obtain ⟨rp7, O7, N7, nd7, wd7, S7, sh7, P7⟩ := HP.out
              have z1 := (P7.A.T.H q P7.hq).c1
              rw [P7.lq rfl] at z1
              simp only [itv] at z1
              have z2 := (P7.A.T.H q P7.hq).fr 1
              have HP7 := Lib.hid P7
              clear P7
              go_wp2_with (first | go_step3 | with_reducible refine j3_i0 ?_ | with_reducible refine j3_i1 ?_ | with_reducible refine j3_i2 ?_ | with_reducible refine j1_i0 ?_)
              all_goals
                first | rw [Exit.noGoto_ret] | rw [j1_r] | skip
                go_ret
                exact HP7.out.item i HM6.out 0
            · obtain ⟨rp7, O7, N7, nd7, wd7, S7, sh7, P7⟩ := HP.out
              have hpos : 0 < r.length := List.length_pos_iff.2 hr
              have hnz : ((r.length : Int) != 0) = true := by rw [bne_iff_ne]; omega
              have hr10 : r.length ≤ 10 := by have h1 := P7.eK; have h2 := P7.K10; rw [h1, List.length_append] at h2; omega
              have hrs := P7.hrs hr
              have hq7 := (P7.A.T.H q P7.hq).obj
              have hqlt := lt_of_heap hq7
              have htlt := lt_of_heap (P7.A.T.H t P7.A.T.I.root_mem).obj
              have ht7 := (P7.A.T.H t P7.A.T.I.root_mem).obj
              have hmp7 := P7.A.mp
              have HP7 := Lib.hid P7
              have HR := Lib.hid hr
              clear P7 hr
              go_wp2_with (first | go_step3 | with_reducible refine j3_i0 ?_ | with_reducible refine j3_i1 ?_ | with_reducible refine j3_i2 ?_ | with_reducible refine j1_i0 ?_)
              refine (newTrie_nil _).mono ?_
              rintro e w2 ⟨y, l, a, rfl, hy, hl, ha, hyo, hraw2, hT2⟩
              have hy' : wr.heap.size ≤ y := hy
              have hyq : ¬ y = q := by omega
              have hyt : ¬ y = t := by omega
              have c2' : w2.cell? ⟨t, 2, none⟩ = some (.int .i64 (m6 : Int)) := by
                rw [cell_of_block ((hT2.keep t htlt (fun h => h)).trans ht7)]
                show some (Value.int .i64 (nd7 t).mp) = _
                rw [hmp7]
              have q4' : w2.cell? ⟨q, 4, none⟩ = some (.iface (nd7 q).cl.ty (ptr (nd7 q).cl.l)) := by rw [cell_of_block ((hT2.keep q hqlt (fun h => h)).trans hq7)]; rfl
              have y0 : w2.cell? ⟨y, 0, none⟩ = some (.slice none 0 0) := by rw [cell_of_block hyo]; rfl
              have y1 := free_of_block hyo 0
              have m3 := m_add (nd7 q).cl
              have m4 := f_add (nd7 q).cl
              have HY := Lib.hid (⟨hy, hl, ha, hyo, hraw2, hT2⟩ : _ ∧ _ ∧ _ ∧ _ ∧ _ ∧ _)
              clear hy hl ha hyo hraw2 hT2 hq7 ht7 hmp7
              by_cases hle : r.length ≤ m6
              · have hle' : (r.length : Int) ≤ (m6 : Int) := by omega
                clear hle
                go_wp2_with (first | go_step3 | with_reducible refine j3_i0 ?_ | with_reducible refine j3_i1 ?_ | with_reducible refine j3_i2 ?_ | with_reducible refine j1_i0 ?_)
                refine (put_add_call HP7.out.A HP7.out.hq HY.out.1 HY.out.2.2.2.1 HY.out.2.2.2.2.2 (by rfl) hpos (HP7.out.byte HR.out) (HP7.out.no HR.out)).mono ?_
                rintro e w4 ⟨cl', rfl, k1, k2, k3, k4, k5, k6, k7, k8⟩
                have hcl' := put_add_cells HP7.out.A HP7.out.hq (w4 := w4) (r := r) HY.out.1 HY.out.2.2.2.1 HY.out.2.2.2.2.2 k8 (by rfl)
                obtain ⟨v1, v2⟩ := hcl'
                have z1 : w4.cell? ⟨q, 4, none⟩ = some (.iface (nd7 q).cl.ty (ptr (nd7 q).cl.l)) := by rw [cell_of_block v1]; rfl
                have z2 := free_of_block v1 4
                have z3 : w4.cell? ⟨y, 1, none⟩ = some .nilIface := by rw [cell_of_block v2]; rfl
                have z4 := free_of_block v2 1
                have HPK := Lib.hid (⟨k1, k2, k3, k4, k5, k8⟩ : _ ∧ _ ∧ _ ∧ _ ∧ _ ∧ _)
                clear k1 k2 k3 k4 k5 k6 k7 k8 v1 v2 y0 y1 q4' c2' m3 m4
                simp only [CL.val]
                go_wp2_with (first | go_step3 | with_reducible refine j3_i0 ?_ | with_reducible refine j3_i1 ?_ | with_reducible refine j3_i2 ?_ | with_reducible refine j1_i0 ?_)
                all_goals
                  first | rw [Exit.noGoto_ret] | rw [j1_r] | skip
                  go_ret
                  exact ApI.last HP7 HR i HM6 (by rfl) (by exact Tch.refl _ _) HY HPK
              · have hgt : m6 < r.length := by omega
                have hle' : ¬ (r.length : Int) ≤ (m6 : Int) := by omega
                have g1 : (0 : Int) ≤ (m6 : Int) := by omega
                have g2 : (m6 : Int) ≤ (sc : Int) := by omega
                have g3 : (m6 : Int) ≤ (r.length : Int) := by omega
                have g4 : ¬ sc = m6 := by omega
                have g5 : m6 ≤ sc := by omega
                have g6 : m6 ≤ r.length := by omega
                clear hle
                go_wp2_with (first | go_step3 | with_reducible refine j3_i0 ?_ | with_reducible refine j3_i1 ?_ | with_reducible refine j3_i2 ?_ | with_reducible refine j1_i0 ?_)
                refine (put_add_call (n := m6) HP7.out.A HP7.out.hq HY.out.1 HY.out.2.2.2.1 HY.out.2.2.2.2.2 (by rfl) h61 (HP7.out.byte HR.out) (HP7.out.no HR.out)).mono ?_
                rintro e w4 ⟨cl', rfl, k1, k2, k3, k4, k5, k6, k7, k8⟩
                have hlm : (r.take m6).length = m6 := by rw [List.length_take]; omega
                have hcl' := put_add_cells HP7.out.A HP7.out.hq (w4 := w4) (r := r.take m6) HY.out.1 HY.out.2.2.2.1 HY.out.2.2.2.2.2 (by rw [hlm]; exact k8) (by rfl)
                obtain ⟨v1, _⟩ := hcl'
                have z1 : w4.cell? ⟨q, 4, none⟩ = some (.iface (nd7 q).cl.ty (ptr (nd7 q).cl.l)) := by rw [cell_of_block v1]; rfl
                have z2 := free_of_block v1 4
                have HPK := Lib.hid (⟨k1, k2, k3, k4, k5, k8⟩ : _ ∧ _ ∧ _ ∧ _ ∧ _ ∧ _)
                clear k1 k2 k3 k4 k5 k6 k7 k8 v1 y0 y1 q4' c2' m3 m4 hlm
                simp only [CL.val]
                go_wp2_with (first | go_step3 | with_reducible refine j3_i0 ?_ | with_reducible refine j3_i1 ?_ | with_reducible refine j3_i2 ?_ | with_reducible refine j1_i0 ?_)
                have HN : Hid (ApE w t M O K kb kc (m6 : Int) y (r.drop m6) (so + m6) (sc - m6) (w4.setCell ⟨q, 4, none⟩ (.iface cl'.ty (ptr cl'.l)))) := ApI.more HP7 h61 hgt (by rfl) (by exact Tch.refl _ _) HY HPK
                go_roundw
                case rel => first | exact ⟨r.drop m6, so + m6, sc - m6, y, by rw [List.length_drop], rfl, HN⟩ | ((repeat apply Exists.intro); refine ⟨?_, rfl⟩; exact ⟨r.drop m6, so + m6, sc - m6, y, by rw [List.length_drop], rfl, HN⟩)
                case measure => simp [slen]; omega
        · obtain ⟨je, hraw3, hq3, hfin⟩ := split_join HE.out HA1.out HLF.out HQ.out.1 HQ.out.2.2 (by rw [hAc]; exact J)
          subst je
          have q4 : w3.cell? ⟨q, 4, none⟩ = some (.iface 102 (ptr l)) := by rw [cell_of_block hq3]; rfl
          have HFIN := Lib.hid hfin
          have HADD := Lib.hid (sp_add_roomX w3 l a 8 [] cc hraw3 (by simp))
          have HQ3 := Lib.hid hq3
          have HLA : Hid (l ≠ q ∧ a ≠ q) := (⟨by have := HE.out.hl; omega, by have := HE.out.ha; omega⟩ : l ≠ q ∧ a ≠ q)
          clear J hraw3 hq3 hfin
          go_wp2_with (first | go_step3 | with_reducible refine j3_i0 ?_ | with_reducible refine j3_i1 ?_ | with_reducible refine j3_i2 ?_ | with_reducible refine j1_i0 ?_)
          refine HADD.out.mono ?_
          rintro e w5 hX
          have v1 := (hX.2.2.keep q (lt_of_heap HQ3.out) (fun h => by rcases h with h | h; exact HLA.out.1 h.symm; exact HLA.out.2 h.symm)).trans HQ3.out
          have z1 : w5.cell? ⟨q, 4, none⟩ = some (.iface 102 (ptr l)) := by rw [cell_of_block v1]; rfl
          have z2 := free_of_block v1 4
          have hsp : SplitR W t (m0 : Int) M O q u ((nd q).px.take c) ((nd q).px.drop c) (w5.setCell ⟨q, 4, none⟩ (.iface 102 (.pointer (some ⟨l, 0, none⟩)))) := HFIN.out e w5 hX
          have he : e = .returned (.iface 102 (.pointer (some ⟨l, 0, none⟩))) := hX.1
          subst he
          have HSP := Lib.hid hsp
          clear hsp v1 q4 hmth HADD hX
          go_wp2_with (first | go_step3 | with_reducible refine j3_i0 ?_ | with_reducible refine j3_i1 ?_ | with_reducible refine j3_i2 ?_ | with_reducible refine j1_i0 ?_)
          have hsp := HSP.out
          clear HSP z1 z2
          generalize w5.setCell ⟨q, 4, none⟩ (.iface 102 (.pointer (some ⟨l, 0, none⟩))) = W6 at hsp ⊢
          obtain ⟨mp6, hmp6, hE⟩ := ApE.split (r := k.drop c) (so := o + c) (sc := m - c) hsp HTW.out HKA.out HKB.out HTL.out HKL.out hk1 (by
              have h := lcp_take (nd q).px k
              rw [HC.out] at h
              rw [h, HQ.out.2.1, List.append_assoc, List.take_append_drop]) (fun _ => by rw [List.length_drop]; have := HS.out.2.2.1; omega) (fun _ => by have := HS.out.2.2.2.1; omega) (fun _ => by rw [List.length_drop]; omega) (fun hne => by
              have hck : c < k.length := by
                rcases Nat.lt_or_ge c k.length with h | h
                · exact h
                · exact absurd (List.drop_eq_nil_of_le h) hne
              have hst := lcp_stop (nd q).px k (by rw [HC.out]; exact hsplit) (by rw [HC.out]; exact hck)
              rw [HC.out] at hst
              intro e
              apply hst
              have f : ∀ (l : List UInt8), c < l.length → l[c]? = some ((l.drop c).headD 0) := fun l hl => by
                rw [List.getElem?_eq_getElem hl, List.drop_eq_getElem_cons hl]; rfl
              rw [f _ hsplit, f _ hck, e])
          obtain ⟨m6, h6, h61⟩ : ∃ m6 : Nat, mp6 = (m6 : Int) ∧ 1 ≤ m6 := by
            rcases hmp6 with h | h
            · exact ⟨10, h, by omega⟩
            · exact ⟨m0, h, hm0⟩
          subst h6
          have HE6 := Lib.hid hE
          have HM6 := Lib.hid hmp6
          clear hE hsp hmp6
          go_loopw [1, 10] (fun key node wr => ∃ (r : List UInt8) (so sc q : Nat), key = .slice (some ⟨kb, so, none⟩) r.length sc ∧ node = ptr q ∧ Hid (ApE w t M O K kb kc (m6 : Int) q r so sc wr)) (fun key _ _ => slen key)
          case atStart => exact ⟨k.drop c, o + c, m - c, q, by rw [List.length_drop], rfl, HE6⟩
          case round =>
            obtain ⟨r, so, sc, q, rfl, rfl, HP⟩ := hrel
            by_cases hr : r = []
            · subst hr
              obtain ⟨rp7, O7, N7, nd7, wd7, S7, sh7, P7⟩ := HP.out
              have z1 := (P7.A.T.H q P7.hq).c1
              rw [P7.lq rfl] at z1
              simp only [itv] at z1
              have z2 := (P7.A.T.H q P7.hq).fr 1
              have HP7 := Lib.hid P7
              clear P7
              go_wp2_with (first | go_step3 | with_reducible refine j3_i0 ?_ | with_reducible refine j3_i1 ?_ | with_reducible refine j3_i2 ?_ | with_reducible refine j1_i0 ?_)
              all_goals
                first | rw [Exit.noGoto_ret] | rw [j1_r] | skip
                go_ret
                exact HP7.out.item i HM6.out 0
            · obtain ⟨rp7, O7, N7, nd7, wd7, S7, sh7, P7⟩ := HP.out
              have hpos : 0 < r.length := List.length_pos_iff.2 hr
              have hnz : ((r.length : Int) != 0) = true := by rw [bne_iff_ne]; omega
              have hr10 : r.length ≤ 10 := by have h1 := P7.eK; have h2 := P7.K10; rw [h1, List.length_append] at h2; omega
              have hrs := P7.hrs hr
              have hq7 := (P7.A.T.H q P7.hq).obj
              have hqlt := lt_of_heap hq7
              have htlt := lt_of_heap (P7.A.T.H t P7.A.T.I.root_mem).obj
              have ht7 := (P7.A.T.H t P7.A.T.I.root_mem).obj
              have hmp7 := P7.A.mp
              have HP7 := Lib.hid P7
              have HR := Lib.hid hr
              clear P7 hr
              go_wp2_with (first | go_step3 | with_reducible refine j3_i0 ?_ | with_reducible refine j3_i1 ?_ | with_reducible refine j3_i2 ?_ | with_reducible refine j1_i0 ?_)
              refine (newTrie_nil _).mono ?_
              rintro e w2 ⟨y, l, a, rfl, hy, hl, ha, hyo, hraw2, hT2⟩
              have hy' : wr.heap.size ≤ y := hy
              have hyq : ¬ y = q := by omega
              have hyt : ¬ y = t := by omega
              have c2' : w2.cell? ⟨t, 2, none⟩ = some (.int .i64 (m6 : Int)) := by
                rw [cell_of_block ((hT2.keep t htlt (fun h => h)).trans ht7)]
                show some (Value.int .i64 (nd7 t).mp) = _
                rw [hmp7]
              have q4' : w2.cell? ⟨q, 4, none⟩ = some (.iface (nd7 q).cl.ty (ptr (nd7 q).cl.l)) := by rw [cell_of_block ((hT2.keep q hqlt (fun h => h)).trans hq7)]; rfl
              have y0 : w2.cell? ⟨y, 0, none⟩ = some (.slice none 0 0) := by rw [cell_of_block hyo]; rfl
              have y1 := free_of_block hyo 0
              have m3 := m_add (nd7 q).cl
              have m4 := f_add (nd7 q).cl
              have HY := Lib.hid (⟨hy, hl, ha, hyo, hraw2, hT2⟩ : _ ∧ _ ∧ _ ∧ _ ∧ _ ∧ _)
              clear hy hl ha hyo hraw2 hT2 hq7 ht7 hmp7
              by_cases hle : r.length ≤ m6
              · have hle' : (r.length : Int) ≤ (m6 : Int) := by omega
                clear hle
                go_wp2_with (first | go_step3 | with_reducible refine j3_i0 ?_ | with_reducible refine j3_i1 ?_ | with_reducible refine j3_i2 ?_ | with_reducible refine j1_i0 ?_)
                refine (put_add_call HP7.out.A HP7.out.hq HY.out.1 HY.out.2.2.2.1 HY.out.2.2.2.2.2 (by rfl) hpos (HP7.out.byte HR.out) (HP7.out.no HR.out)).mono ?_
                rintro e w4 ⟨cl', rfl, k1, k2, k3, k4, k5, k6, k7, k8⟩
                have hcl' := put_add_cells HP7.out.A HP7.out.hq (w4 := w4) (r := r) HY.out.1 HY.out.2.2.2.1 HY.out.2.2.2.2.2 k8 (by rfl)
                obtain ⟨v1, v2⟩ := hcl'
                have z1 : w4.cell? ⟨q, 4, none⟩ = some (.iface (nd7 q).cl.ty (ptr (nd7 q).cl.l)) := by rw [cell_of_block v1]; rfl
                have z2 := free_of_block v1 4
                have z3 : w4.cell? ⟨y, 1, none⟩ = some .nilIface := by rw [cell_of_block v2]; rfl
                have z4 := free_of_block v2 1
                have HPK := Lib.hid (⟨k1, k2, k3, k4, k5, k8⟩ : _ ∧ _ ∧ _ ∧ _ ∧ _ ∧ _)
                clear k1 k2 k3 k4 k5 k6 k7 k8 v1 v2 y0 y1 q4' c2' m3 m4
                simp only [CL.val]
                go_wp2_with (first | go_step3 | with_reducible refine j3_i0 ?_ | with_reducible refine j3_i1 ?_ | with_reducible refine j3_i2 ?_ | with_reducible refine j1_i0 ?_)
                all_goals
                  first | rw [Exit.noGoto_ret] | rw [j1_r] | skip
                  go_ret
                  exact ApI.last HP7 HR i HM6 (by rfl) (by exact Tch.refl _ _) HY HPK
              · have hgt : m6 < r.length := by omega
                have hle' : ¬ (r.length : Int) ≤ (m6 : Int) := by omega
                have g1 : (0 : Int) ≤ (m6 : Int) := by omega
                have g2 : (m6 : Int) ≤ (sc : Int) := by omega
                have g3 : (m6 : Int) ≤ (r.length : Int) := by omega
                have g4 : ¬ sc = m6 := by omega
                have g5 : m6 ≤ sc := by omega
                have g6 : m6 ≤ r.length := by omega
                clear hle
                go_wp2_with (first | go_step3 | with_reducible refine j3_i0 ?_ | with_reducible refine j3_i1 ?_ | with_reducible refine j3_i2 ?_ | with_reducible refine j1_i0 ?_)
                refine (put_add_call (n := m6) HP7.out.A HP7.out.hq HY.out.1 HY.out.2.2.2.1 HY.out.2.2.2.2.2 (by rfl) h61 (HP7.out.byte HR.out) (HP7.out.no HR.out)).mono ?_
                rintro e w4 ⟨cl', rfl, k1, k2, k3, k4, k5, k6, k7, k8⟩
                have hlm : (r.take m6).length = m6 := by rw [List.length_take]; omega
                have hcl' := put_add_cells HP7.out.A HP7.out.hq (w4 := w4) (r := r.take m6) HY.out.1 HY.out.2.2.2.1 HY.out.2.2.2.2.2 (by rw [hlm]; exact k8) (by rfl)
                obtain ⟨v1, _⟩ := hcl'
                have z1 : w4.cell? ⟨q, 4, none⟩ = some (.iface (nd7 q).cl.ty (ptr (nd7 q).cl.l)) := by rw [cell_of_block v1]; rfl
                have z2 := free_of_block v1 4
                have HPK := Lib.hid (⟨k1, k2, k3, k4, k5, k8⟩ : _ ∧ _ ∧ _ ∧ _ ∧ _ ∧ _)
                clear k1 k2 k3 k4 k5 k6 k7 k8 v1 y0 y1 q4' c2' m3 m4 hlm
                simp only [CL.val]
                go_wp2_with (first | go_step3 | with_reducible refine j3_i0 ?_ | with_reducible refine j3_i1 ?_ | with_reducible refine j3_i2 ?_ | with_reducible refine j1_i0 ?_)
                have HN : Hid (ApE w t M O K kb kc (m6 : Int) y (r.drop m6) (so + m6) (sc - m6) (w4.setCell ⟨q, 4, none⟩ (.iface cl'.ty (ptr cl'.l)))) := ApI.more HP7 h61 hgt (by rfl) (by exact Tch.refl _ _) HY HPK
                go_roundw
                case rel => first | exact ⟨r.drop m6, so + m6, sc - m6, y, by rw [List.length_drop], rfl, HN⟩ | ((repeat apply Exists.intro); refine ⟨?_, rfl⟩; exact ⟨r.drop m6, so + m6, sc - m6, y, by rw [List.length_drop], rfl, HN⟩)
                case measure => simp [slen]; omega
    · have hcp : c = (nd q).px.length := by omega
      have HCP := Lib.hid hcp
      clear hcp
      have g2 : ¬ (c : Int) < ((nd q).px.length : Int) := by omega
      by_cases h1 : c = k.length
      · -- the key ends at this node
        subst h1
        have hfull := HS.out.1.full (HC.out.trans HCP.out)
        rw [HC.out, List.drop_length, List.append_nil] at hfull
        have HF := Lib.hid hfull
        have q1 := Hn.out.c1
        clear hfull m1 m2 q4
        cases hit : (nd q).it with
        | none =>
          rw [hit] at q1
          simp only [itv] at q1
          have HIT := Lib.hid hit
          clear hit
          have hfr := Hn.out.fr 1
          by_cases h2 : m = k.length
          all_goals
            try subst h2
            go_wp2_with (first | go_step3 | with_reducible refine j3_i0 ?_ | with_reducible refine j3_i1 ?_ | with_reducible refine j3_i2 ?_ | with_reducible refine j1_i0 ?_ | (go_at_call 70; refine HL.out.mono ?_; rintro e w' ⟨rfl, n1, rfl⟩))
            rw [Exit.noGoto_ret]
            go_ret
            exact itemX HA HLF HS.out.1.mem HF.out HIT i kb _
        | some v =>
          rw [hit] at q1
          simp only [itv] at q1
          have hM0 : Hid (M K ≠ none) := by show _ ≠ _; rw [HF.out, HA.out.C.at_ q HS.out.1.mem, hit]; simp
          clear hit
          have hfr := Hn.out.fr 1
          by_cases h2 : m = k.length
          all_goals
            try subst h2
            go_wp2_with (first | go_step3 | with_reducible refine j3_i0 ?_ | with_reducible refine j3_i1 ?_ | with_reducible refine j3_i2 ?_ | with_reducible refine j1_i0 ?_ | (go_at_call 70; refine HL.out.mono ?_; rintro e w' ⟨rfl, n1, rfl⟩))
            rw [Exit.noGoto_ret]
            go_ret
            exact keepX HA HLF i kb _ hM0.out
      · have hck : c < k.length := by omega
        have hmc : ¬ m = c := by omega
        obtain ⟨b, hb⟩ : ∃ b, (k.drop c).head? = some b := by
          cases hd : k.drop c with
          | nil => have := congrArg List.length hd; rw [List.length_drop] at this; simp at this; omega
          | cons b l => exact ⟨b, rfl⟩
        have hnz : (((k.length - c : Nat) : Int) == 0) = false := by rw [beq_eq_false_iff_ne]; omega
        have hb0 := (HS.out.2.1.drop c).head hb
        have hpos : 0 < k.length - c := by omega
        have HB := Lib.hid hb
        have hfull : lcp (nd q).px k = (nd q).px.length := by rw [HC.out, HCP.out]
        have HFU := Lib.hid hfull
        clear hb hfull
        obtain ⟨x, hx⟩ : ∃ x, (nd q).cl.child (fun c => (nd c).fb) b = x := ⟨_, rfl⟩
        have hnx := next_q w (fun c => (nd c).fb) (nd q).cl b Hn.out.raw (HA.out.T.I.kb HA.out.T.H HS.out.1.mem)
        rw [hx] at hnx
        have HX := Lib.hid hx
        have HNX := Lib.hid hnx
        clear hx hnx
        cases x with
        | none =>
          have hno := find_none HX.out
          have HNO := Lib.hid hno
          clear hno
          go_wp2_with (first | go_step3 | with_reducible refine j3_i0 ?_ | with_reducible refine j3_i1 ?_ | with_reducible refine j3_i2 ?_ | with_reducible refine j1_i0 ?_ | (go_at_call 70; refine HL.out.mono ?_; rintro e w' ⟨rfl, n1, rfl⟩))
          go_quiet (exact qshift HNX.out _ _)
          have hnz2 : (((k.length - c : Nat) : Int) != 0) = true := by rw [bne_iff_ne]; omega
          go_wp2_with (first | go_step3 | with_reducible refine j3_i0 ?_ | with_reducible refine j3_i1 ?_ | with_reducible refine j3_i2 ?_ | with_reducible refine j1_i0 ?_ | (go_at_call 70; refine HL.out.mono ?_; rintro e w' ⟨rfl, n1, rfl⟩))
          clear m1 m2 q0 q4 c0 c2
          have hE := ApE.here HA.out HLF.out HS.out.1.mem HK.out HKB.out hk1 (r := k.drop c) (so := o + c) (sc := m - c) (by have hK2 := HS.out.1.full HFU.out; rw [HC.out] at hK2; exact hK2) (fun h => by have := HB.out; rw [h] at this; simp at this) (by rw [List.length_drop]; have := HS.out.2.2.1; omega) (by have := HS.out.2.2.2.1; omega) (by rw [List.length_drop]; omega) (by
              have e : (k.drop c).headD 0 = b := by
                have := HB.out
                cases h : k.drop c with
                | nil => rw [h] at this; simp at this
                | cons x l => rw [h] at this; simpa using this
              intro c' hc'
              rw [e]; exact HNO.out c' hc')
          obtain ⟨m6, h6, h61⟩ : ∃ m6 : Nat, m0 = m6 ∧ 1 ≤ m6 := ⟨m0, rfl, hm0⟩
          have HM6 : Hid ((m6 : Int) = 10 ∨ (m6 : Int) = (m0 : Int)) := (.inr (by rw [h6]) : (m6 : Int) = 10 ∨ (m6 : Int) = (m0 : Int))
          have HEE : Hid (∀ n : Nat, ApE w t M O K kb kc (m6 : Int) q (k.drop c) (o + c) (m - c) (w.drewN n)) := by rw [h6] at hE; exact (hE : ∀ n : Nat, ApE w t M O K kb kc (m6 : Int) q (k.drop c) (o + c) (m - c) (w.drewN n))
          clear hE h6
          go_loopw [1, 10] (fun key node wr => ∃ (r : List UInt8) (so sc q : Nat), key = .slice (some ⟨kb, so, none⟩) r.length sc ∧ node = ptr q ∧ Hid (ApE w t M O K kb kc (m6 : Int) q r so sc wr)) (fun key _ _ => slen key)
          case atStart => exact ⟨k.drop c, o + c, m - c, q, by rw [List.length_drop], rfl, HEE.out _⟩
          case round =>
            obtain ⟨r, so, sc, q, rfl, rfl, HP⟩ := hrel
            by_cases hr : r = []
            · subst hr
              obtain ⟨rp7, O7, N7, nd7, wd7, S7, sh7, P7⟩ := HP.out
              have z1 := (P7.A.T.H q P7.hq).c1
              rw [P7.lq rfl] at z1
              simp only [itv] at z1
              have z2 := (P7.A.T.H q P7.hq).fr 1
              have HP7 := Lib.hid P7
              clear P7
              go_wp2_with (first | go_step3 | with_reducible refine j3_i0 ?_ | with_reducible refine j3_i1 ?_ | with_reducible refine j3_i2 ?_ | with_reducible refine j1_i0 ?_)
              all_goals
                first | rw [Exit.noGoto_ret] | rw [j1_r] | skip
                go_ret
                exact HP7.out.item i HM6.out 0
            · obtain ⟨rp7, O7, N7, nd7, wd7, S7, sh7, P7⟩ := HP.out
              have hpos : 0 < r.length := List.length_pos_iff.2 hr
              have hnz : ((r.length : Int) != 0) = true := by rw [bne_iff_ne]; omega
              have hr10 : r.length ≤ 10 := by have h1 := P7.eK; have h2 := P7.K10; rw [h1, List.length_append] at h2; omega
              have hrs := P7.hrs hr
              have hq7 := (P7.A.T.H q P7.hq).obj
              have hqlt := lt_of_heap hq7
              have htlt := lt_of_heap (P7.A.T.H t P7.A.T.I.root_mem).obj
              have ht7 := (P7.A.T.H t P7.A.T.I.root_mem).obj
              have hmp7 := P7.A.mp
              have HP7 := Lib.hid P7
              have HR := Lib.hid hr
              clear P7 hr
              go_wp2_with (first | go_step3 | with_reducible refine j3_i0 ?_ | with_reducible refine j3_i1 ?_ | with_reducible refine j3_i2 ?_ | with_reducible refine j1_i0 ?_)
              refine (newTrie_nil _).mono ?_
              rintro e w2 ⟨y, l, a, rfl, hy, hl, ha, hyo, hraw2, hT2⟩
              have hy' : wr.heap.size ≤ y := hy
              have hyq : ¬ y = q := by omega
              have hyt : ¬ y = t := by omega
              have c2' : w2.cell? ⟨t, 2, none⟩ = some (.int .i64 (m6 : Int)) := by
                rw [cell_of_block ((hT2.keep t htlt (fun h => h)).trans ht7)]
                show some (Value.int .i64 (nd7 t).mp) = _
                rw [hmp7]
              have q4' : w2.cell? ⟨q, 4, none⟩ = some (.iface (nd7 q).cl.ty (ptr (nd7 q).cl.l)) := by rw [cell_of_block ((hT2.keep q hqlt (fun h => h)).trans hq7)]; rfl
              have y0 : w2.cell? ⟨y, 0, none⟩ = some (.slice none 0 0) := by rw [cell_of_block hyo]; rfl
              have y1 := free_of_block hyo 0
              have m3 := m_add (nd7 q).cl
              have m4 := f_add (nd7 q).cl
              have HY := Lib.hid (⟨hy, hl, ha, hyo, hraw2, hT2⟩ : _ ∧ _ ∧ _ ∧ _ ∧ _ ∧ _)
              clear hy hl ha hyo hraw2 hT2 hq7 ht7 hmp7
              by_cases hle : r.length ≤ m6
              · have hle' : (r.length : Int) ≤ (m6 : Int) := by omega
                clear hle
                go_wp2_with (first | go_step3 | with_reducible refine j3_i0 ?_ | with_reducible refine j3_i1 ?_ | with_reducible refine j3_i2 ?_ | with_reducible refine j1_i0 ?_)
                refine (put_add_call HP7.out.A HP7.out.hq HY.out.1 HY.out.2.2.2.1 HY.out.2.2.2.2.2 (by rfl) hpos (HP7.out.byte HR.out) (HP7.out.no HR.out)).mono ?_
                rintro e w4 ⟨cl', rfl, k1, k2, k3, k4, k5, k6, k7, k8⟩
                have hcl' := put_add_cells HP7.out.A HP7.out.hq (w4 := w4) (r := r) HY.out.1 HY.out.2.2.2.1 HY.out.2.2.2.2.2 k8 (by rfl)
                obtain ⟨v1, v2⟩ := hcl'
                have z1 : w4.cell? ⟨q, 4, none⟩ = some (.iface (nd7 q).cl.ty (ptr (nd7 q).cl.l)) := by rw [cell_of_block v1]; rfl
                have z2 := free_of_block v1 4
                have z3 : w4.cell? ⟨y, 1, none⟩ = some .nilIface := by rw [cell_of_block v2]; rfl
                have z4 := free_of_block v2 1
                have HPK := Lib.hid (⟨k1, k2, k3, k4, k5, k8⟩ : _ ∧ _ ∧ _ ∧ _ ∧ _ ∧ _)
                clear k1 k2 k3 k4 k5 k6 k7 k8 v1 v2 y0 y1 q4' c2' m3 m4
                simp only [CL.val]
                go_wp2_with (first | go_step3 | with_reducible refine j3_i0 ?_ | with_reducible refine j3_i1 ?_ | with_reducible refine j3_i2 ?_ | with_reducible refine j1_i0 ?_)
                all_goals
                  first | rw [Exit.noGoto_ret] | rw [j1_r] | skip
                  go_ret
                  exact ApI.last HP7 HR i HM6 (by rfl) (by exact Tch.refl _ _) HY HPK
              · have hgt : m6 < r.length := by omega
                have hle' : ¬ (r.length : Int) ≤ (m6 : Int) := by omega
                have g1 : (0 : Int) ≤ (m6 : Int) := by omega
                have g2 : (m6 : Int) ≤ (sc : Int) := by omega
                have g3 : (m6 : Int) ≤ (r.length : Int) := by omega
                have g4 : ¬ sc = m6 := by omega
                have g5 : m6 ≤ sc := by omega
                have g6 : m6 ≤ r.length := by omega
                clear hle
                go_wp2_with (first | go_step3 | with_reducible refine j3_i0 ?_ | with_reducible refine j3_i1 ?_ | with_reducible refine j3_i2 ?_ | with_reducible refine j1_i0 ?_)
                refine (put_add_call (n := m6) HP7.out.A HP7.out.hq HY.out.1 HY.out.2.2.2.1 HY.out.2.2.2.2.2 (by rfl) h61 (HP7.out.byte HR.out) (HP7.out.no HR.out)).mono ?_
                rintro e w4 ⟨cl', rfl, k1, k2, k3, k4, k5, k6, k7, k8⟩
                have hlm : (r.take m6).length = m6 := by rw [List.length_take]; omega
                have hcl' := put_add_cells HP7.out.A HP7.out.hq (w4 := w4) (r := r.take m6) HY.out.1 HY.out.2.2.2.1 HY.out.2.2.2.2.2 (by rw [hlm]; exact k8) (by rfl)
                obtain ⟨v1, _⟩ := hcl'
                have z1 : w4.cell? ⟨q, 4, none⟩ = some (.iface (nd7 q).cl.ty (ptr (nd7 q).cl.l)) := by rw [cell_of_block v1]; rfl
                have z2 := free_of_block v1 4
                have HPK := Lib.hid (⟨k1, k2, k3, k4, k5, k8⟩ : _ ∧ _ ∧ _ ∧ _ ∧ _ ∧ _)
                clear k1 k2 k3 k4 k5 k6 k7 k8 v1 y0 y1 q4' c2' m3 m4 hlm
                simp only [CL.val]
                go_wp2_with (first | go_step3 | with_reducible refine j3_i0 ?_ | with_reducible refine j3_i1 ?_ | with_reducible refine j3_i2 ?_ | with_reducible refine j1_i0 ?_)
                have HN : Hid (ApE w t M O K kb kc (m6 : Int) y (r.drop m6) (so + m6) (sc - m6) (w4.setCell ⟨q, 4, none⟩ (.iface cl'.ty (ptr cl'.l)))) := ApI.more HP7 h61 hgt (by rfl) (by exact Tch.refl _ _) HY HPK
                go_roundw
                case rel => first | exact ⟨r.drop m6, so + m6, sc - m6, y, by rw [List.length_drop], rfl, HN⟩ | ((repeat apply Exists.intro); refine ⟨?_, rfl⟩; exact ⟨r.drop m6, so + m6, sc - m6, y, by rw [List.length_drop], rfl, HN⟩)
                case measure => simp [slen]; omega
        | some x =>
          have hxk := find_some HX.out
          have hst := HS.out.1.step HA.out.T.I HFU.out (by rw [HC.out]; exact HB.out) hxk.1 hxk.2
          rw [HC.out] at hst
          have hxr := (HA.out.T.I.kid q HS.out.1.mem x hxk.1).2.1
          have HST : Hid (PutJ t N nd wd w kb kc K x (k.drop c) (o + c) (m - c)) :=
            (⟨hst, HS.out.2.1.drop c, by rw [List.length_drop]; have := HS.out.2.2.1; omega, by have := HS.out.2.2.2.1; omega, by rw [List.length_drop]; omega⟩ : PutJ t N nd wd w kb kc K x (k.drop c) (o + c) (m - c))
          have HLT := Lib.hid (step_less HA.out.T.I HS.out.1.mem hxr HCP.out hck)
          clear hxk hst hxr
          go_wp2_with (first | go_step3 | with_reducible refine j3_i0 ?_ | with_reducible refine j3_i1 ?_ | with_reducible refine j3_i2 ?_ | with_reducible refine j1_i0 ?_ | (go_at_call 70; refine HL.out.mono ?_; rintro e w' ⟨rfl, n1, rfl⟩))
          go_quiet (exact qshift HNX.out _ _)
          go_wp2_with (first | go_step3 | with_reducible refine j3_i0 ?_ | with_reducible refine j3_i1 ?_ | with_reducible refine j3_i2 ?_ | with_reducible refine j1_i0 ?_ | (go_at_call 70; refine HL.out.mono ?_; rintro e w' ⟨rfl, n1, rfl⟩))
          go_roundw
          case rel => exact ⟨k.drop c, o + c, m - c, x, _, by rw [List.length_drop], rfl, rfl, by rw [List.length_drop]; omega, by rw [List.length_drop]; omega, HST⟩
          case measure => exact HLT.out

end Go.Proofs.Ytmdbnjepajifpaa
