/- put. -/
import Derived.Test.YtmdbnjepajifpaaPutSplit
namespace Go.Proofs.Ytmdbnjepajifpaa
open Go.RowKit

/-- What the loop of put knows at a node. -/
def PutI (root : Nat) (N : Nat → Prop) (nd : Nat → Nd) (wd : Nat → List UInt8) (w : World) (mp : Int) (kb kc : Nat) (K : List UInt8) (q : Nat) (k : List UInt8) (o m : Nat) : Prop :=
  Srch root N nd wd K q k ∧ KS w kb o k ∧ o + k.length = K.length ∧ o + m ≤ kc ∧ k.length ≤ m ∧ (mp = 10 ∨ (q = root ∧ lcp (nd q).px k < (nd q).px.length))

section
variable {w w' : World} {t lf : Nat} {mp : Int} {rp : List UInt8} {M : List UInt8 → Option Int} {O : Nat → Prop} {N : Nat → Prop} {nd : Nat → Nd} {wd : Nat → List UInt8} {S : Nat → List UInt8} {sh : Nat → Nat} {K k : List UInt8} {q : Nat}

theorem put_keep (A : Hid (TA w t 10 rp M O N nd wd S sh)) (L : Hid (Lf lf N nd)) (i : Int) (kb n : Nat) (hM : M K ≠ none) : PutP w t lf M O K i false kb (.returned (.bool false)) (w.drewN n) := by
  have h : (false || (M K).isNone) = false := by cases h : M K <;> simp_all
  refine ⟨by rw [h], O, rp, ?_, fun k hk => .inl hk, Tch.dr n⟩
  rw [h]
  exact ⟨N, nd, wd, S, sh, A.out.dr n, L.out⟩

theorem put_item (A : Hid (TA w t 10 rp M O N nd wd S sh)) (L : LfX lf N nd q) (hq : N q) (hK : K = wd q) (i : Int) (rep : Bool) (kb n : Nat) (hM : (rep || (M K).isNone) = true) :
    PutP w t lf M O K i rep kb (.returned (.bool true)) ((w.drewN n).setCell ⟨q, 1, none⟩ (.iface 3 (.int .i64 i))) := by
  have A := A.out
  refine ⟨by rw [hM], O, rp, ?_, fun k hk => .inl hk, (Tch.dr n).setCell _ _ (fun _ => (A.own q hq).1)⟩
  rw [hM, if_pos rfl, hK]
  exact ⟨N, _, wd, S, sh, A.setItem hq (some i) rfl, L.setItem _ (.inl (by simp))⟩

theorem put_put {w1 w2 w4 : World} {r : List UInt8} {q y l a kb kc so sc n : Nat} {cl' : CL} (P : Hid (PutT w t lf rp M O N nd wd S sh K r q kb kc so sc)) (i : Int) (rep : Bool)
    (h1 : w1.heap = w.heap) (hT1 : Tch w w1 (fun _ => False)) (hY : Hid (w1.heap.size ≤ y ∧ w1.heap.size ≤ l ∧ w1.heap.size ≤ a ∧ w2.heap[y]? = some (freshNd l a 8 10 8).obj ∧ CLraw w2 (.sp l a 8 []) ∧ Tch w1 w2 (fun _ => False)))
    (hn : n = r.length) (hP : Hid (CLraw w4 cl' ∧ cl'.kids.Perm (y :: (nd q).cl.kids) ∧ cl'.placed (fbY nd y (r.headD 0)) ∧ (cl'.l = (nd q).cl.l ∨ (w2.setCell ⟨y, 0, none⟩ (.slice (some ⟨kb, so, none⟩) n sc)).heap.size ≤ cl'.l) ∧ (cl'.a = (nd q).cl.a ∨ (w2.setCell ⟨y, 0, none⟩ (.slice (some ⟨kb, so, none⟩) n sc)).heap.size ≤ cl'.a) ∧
      Tch (w2.setCell ⟨y, 0, none⟩ (.slice (some ⟨kb, so, none⟩) n sc)) w4 (fun k => k = (nd q).cl.l ∨ k = (nd q).cl.a))) :
    PutP w t lf M O K i rep kb (.returned (.bool true)) ((w4.setCell ⟨q, 4, none⟩ (.iface cl'.ty (ptr cl'.l))).setCell ⟨y, 1, none⟩ (.iface 3 (.int .i64 i))) := by
  subst hn
  obtain ⟨O', h1, h2, h3⟩ := P.out.put i h1 hT1 hY.out hP.out
  have hM : (rep || (M K).isNone) = true := by rw [P.out.new]; simp
  refine ⟨by rw [hM], O', rp, ?_, h2, h3⟩
  rw [hM, if_pos rfl]
  exact h1
end

set_option maxHeartbeats 12800000 in
set_option maxRecDepth 100000 in
theorem put_any (w : World) (t : Nat) (mp : Int) (rp : List UInt8) (M : List UInt8 → Option Int) (O : Nat → Prop) (HT : TrieAt w t 2 mp rp M O) (kb kc : Nat) (K : List UInt8) (hK : KeyAt w kb kc K) (hkb : ¬ O kb)
    (hk0 : 0 < K.length) (hk1 : K.length ≤ 10) (hmp : mp = 10 ∨ lcp rp K < rp.length) (i : Int) (rep : Bool) :
    Calls Try.prog 62 #[ptr t, .slice (some ⟨kb, 0, none⟩) K.length kc, .iface 3 (.int .i64 i), .bool rep] w (PutP w t 2 M O K i rep kb) := by
  obtain ⟨N, nd, wd, S, sh, A, L⟩ := HT
  have hroot := A.T.H t A.T.I.root_mem
  have c0 := hroot.sl A.T.rn
  have c2 := hroot.c2
  rw [A.mp] at c2
  have hnil := fun (W : World) (a : Addr) (n c : Nat) => Lib.run_eql_slice_nil (P := Try.prog) W 53 5 (some a) n c 0 0 Try.underlying53
  have HA := Lib.hid A
  have HLF := Lib.hid L
  have HK := Lib.hid hK
  have HKB := Lib.hid hkb
  have hmp' : mp = 10 ∨ (t = t ∧ lcp (nd t).px K < (nd t).px.length) := hmp.imp id (fun h => ⟨rfl, by rw [A.rp]; exact h⟩)
  have HMP := Lib.hid hmp'
  clear A L hroot hK hkb hmp hmp'
  go_enter Try.func62, Try.ntmps62
  go_wp2_with fail
  refine wp_scope3 rfl rfl rfl ?_
  intro J0 J1 J2 hJ0 hJ1 hJ2
  go_wp2_with fail
  go_loopw [1, 10] (fun key node wr => ∃ (k : List UInt8) (o m q n : Nat), key = .slice (some ⟨kb, o, none⟩) k.length m ∧ node = ptr q ∧ wr = w.drewN n ∧ k.length ≤ m ∧ k.length ≤ 10 ∧ Hid (PutI t N nd wd w mp kb kc K q k o m))
    (fun key node _ => 2 * slen key + atRoot t node)
  case atStart => exact ⟨K, 0, kc, t, 0, rfl, rfl, rfl, HK.out.2.1, hk1, (⟨Srch.start HA.out.T.I K, HK.out.1, by omega, by omega, HK.out.2.1, HMP.out.imp id (fun h => ⟨rfl, h.2⟩)⟩ : PutI t N nd wd w mp kb kc K t K 0 kc)⟩
  case round =>
    obtain ⟨k, o, m, q, n, rfl, rfl, rfl, hkm, hk10, HS⟩ := hrel
    have hN := HS.out.1.mem
    have hn := HA.out.T.H q hN
    have hnp := HA.out.T.np hN
    have hpx := HA.out.T.pxl hN
    obtain ⟨c, hc⟩ : ∃ c, lcp (nd q).px k = c := ⟨_, rfl⟩
    have hcl := lcp_le_left (nd q).px k
    have hcr := lcp_le_right (nd q).px k
    have hl := lcp_q w q kb o m (nd q) k hn hnp HS.out.2.1 (by omega) (by omega) n
    rw [hc] at hcl hcr hl
    have HL := Lib.hid hl
    have HC := Lib.hid hc
    have q0 := hn.sl hnp
    have q4 := hn.c4
    unfold CL.val at q4
    have Hn := Lib.hid hn
    clear hl hc hn hnp hN
    have m1 := m_next (nd q).cl
    have m2 := f_next (nd q).cl
    by_cases hsplit : c < (nd q).px.length
    · have g2 : (c : Int) < ((nd q).px.length : Int) := by omega
      have HJ2 := Lib.hid hJ2
      clear m1 m2 hJ2 q4
      by_cases h1 : c = k.length
      · subst h1
        by_cases hmc : m = k.length
        all_goals
          try subst hmc
          have hwq : ∃ u, wd q = u ++ (nd q).px ∧ K = u ++ k := HS.out.1.cut
          obtain ⟨u, hu1, hu2⟩ := hwq
          have hlt := HS.out.1
          have hA0 : (nd q).px.take k.length ≠ [] ∨ q = t := by
            rcases HS.out.1.hd with h | h
            · exact .inr h
            · left
              intro e
              have h1 := congrArg List.length e
              rw [List.length_take] at h1
              simp only [List.length_nil] at h1
              have h2 : k.length = 0 := by omega
              rw [← HC.out] at h2
              have h3 := lcp_stop (nd q).px k (by omega) (by rw [h2]; cases hk' : k with
                | nil => rw [hk'] at h; simp at h
                | cons b k' => simp)
              rw [h2] at h3
              apply h3
              rw [← List.head?_eq_getElem?, ← List.head?_eq_getElem?, h]
              unfold Nd.fb
              cases hp : (nd q).px with
              | nil => rw [hp] at hsplit; simp at hsplit
              | cons b k' => simp
          have hmpq : mp = 10 ∨ q = t := HS.out.2.2.2.2.2.imp id (fun h => h.1)
          have HQ := Lib.hid (⟨hu1, hu2, hA0, hmpq⟩ : _ ∧ _ ∧ _ ∧ _)
          clear hu1 hu2 hlt hA0 hmpq
          go_wp2_with (first | go_step3 | with_reducible refine j3_i0 ?_ | with_reducible refine j3_i1 ?_ | with_reducible refine j3_i2 ?_ | with_reducible refine j1_i0 ?_ | (go_at_call 70; refine HL.out.mono ?_; rintro e w' ⟨rfl, n1, rfl⟩))
          refine HJ2.out _ _ ?_
          have A1 := HA.out.dr (n + n1)
          have HS1 : Srch t N nd wd K q k ∧ KS (w.drewN (n + n1)) kb o k := ⟨HS.out.1, HS.out.2.1⟩
          have Hq1 := Hn.out.dr (n + n1)
          have hT1 := Tch.dr (w := w) (T := O) (n + n1)
          have hh1 : (w.drewN (n + n1)).heap = w.heap := rfl
          generalize w.drewN (n + n1) = W at A1 HS1 Hq1 hT1 hh1 ⊢
          have q0 := Hq1.sl (A1.T.np HS1.1.mem)
          have q1 := Hq1.c1
          have q2 := Hq1.c2
          have q3 := Hq1.c3
          have q4 := Hq1.c4
          unfold CL.val at q4
          have hst := fun (W : World) (a : Addr) (md : Mode) => run_store Try.prog W a (itv (nd q).it) md (itv_one _)
          have hqal : ∀ (j : Nat) (o : Obj), (W.alloc o).cell? ⟨q, j, none⟩ = W.cell? ⟨q, j, none⟩ := fun j o => cell_alloc_lt Hq1.obj o 0 j
          have HA1 := Lib.hid A1
          have HS1 := Lib.hid HS1
          have Hq1 := Lib.hid Hq1
          have HT1 := Lib.hid (⟨hT1, hh1⟩ : _ ∧ _)
          clear A1 hT1 hh1
          go_wp2_with (first | go_step3 | with_reducible refine j3_i0 ?_ | with_reducible refine j3_i1 ?_ | with_reducible refine j3_i2 ?_ | with_reducible refine j1_i0 ?_ | (go_at_call 70; refine HL.out.mono ?_; rintro e w' ⟨rfl, n1, rfl⟩))
          clear q0 q1 q2 q3 q4 hst hqal c0 c2
          refine (newTrie_nil _).mono ?_
          rintro e w2 ⟨y, l, a, rfl, hy, hl, ha, hyo, hraw2, hT2⟩
          rw [World.size_alloc] at hy hl ha
          have hqlt : q < W.heap.size := lt_of_heap Hq1.out.obj
          have hyq : ¬ y = q := by omega
          have hyx : ¬ y = W.heap.size := by omega
          have hqx : ¬ q = W.heap.size := by omega
          have hxq : ¬ W.heap.size = q := by omega
          have e2 : w2.heap[q]? = some (nd q).obj := (hT2.keep q (by rw [World.size_alloc]; omega) (fun h => h)).trans (heap_al Hq1.out.obj)
          have e3 : w2.heap[W.heap.size]? = some (nd q).obj := by
            rw [hT2.keep W.heap.size (by rw [World.size_alloc]; omega) (fun h => h), heap_new, Nd.obj, Nd.pv, HA1.out.T.np HS1.out.1.mem]; rfl
          have y0 : w2.cell? ⟨y, 0, none⟩ = some (.slice none 0 0) := by rw [cell_of_block hyo]; rfl
          have y1 : w2.cell? ⟨y, 1, none⟩ = some .nilIface := by rw [cell_of_block hyo]; rfl
          have y2 : w2.cell? ⟨y, 2, none⟩ = some (.int .i64 10) := by rw [cell_of_block hyo]; rfl
          have y3 : w2.cell? ⟨y, 3, none⟩ = some (.int .i64 8) := by rw [cell_of_block hyo]; rfl
          have y4 : w2.cell? ⟨y, 4, none⟩ = some (.iface 102 (ptr l)) := by rw [cell_of_block hyo]; rfl
          have q0 : w2.cell? ⟨q, 0, none⟩ = some (nd q).pv := by rw [cell_of_block e2]; rfl
          have q1 : w2.cell? ⟨q, 1, none⟩ = some (itv (nd q).it) := by rw [cell_of_block e2]; rfl
          have q2 : w2.cell? ⟨q, 2, none⟩ = some (.int .i64 (nd q).mp) := by rw [cell_of_block e2]; rfl
          have q3 : w2.cell? ⟨q, 3, none⟩ = some (.int .i64 (nd q).mc) := by rw [cell_of_block e2]; rfl
          have q4 : w2.cell? ⟨q, 4, none⟩ = some (nd q).cl.val := by rw [cell_of_block e2]; rfl
          have x0 : w2.cell? ⟨W.heap.size, 0, none⟩ = some (.slice (some ⟨(nd q).sb, (nd q).so, none⟩) (nd q).px.length (nd q).sc) := by
            rw [cell_of_block e3, Nd.pv, HA1.out.T.np HS1.out.1.mem]; rfl
          have qf0 := free_of_block e2 0
          have qf1 := free_of_block e2 1
          have qf2 := free_of_block e2 2
          have qf3 := free_of_block e2 3
          have qf4 := free_of_block e2 4
          have xf := free_of_block e3 0
          have HE : Hid (SplitH W w2 N nd q W.heap.size y l a ((nd q).px.take k.length) ((nd q).px.drop k.length)) :=
            (⟨HS1.out.1.mem, rfl, (List.take_append_drop _ _).symm, fun h => by have := congrArg List.length h; rw [List.length_drop] at this; simp at this; omega, by omega, by omega, e2, e3, hraw2, ((Tch.refl W _).alloc _).trans hT2 (fun _ _ h => h)⟩ : SplitH W w2 N nd q W.heap.size y l a ((nd q).px.take k.length) ((nd q).px.drop k.length))
          have hsc := Hq1.out.le
          have hscc : ¬ (nd q).sc = k.length := by omega
          have hAc : ((nd q).px.take k.length).length = k.length := by rw [List.length_take]; omega
          clear hy hl ha hyo hraw2 hT2 e2 e3
          go_wp2_with (first | go_step3 | with_reducible refine j3_i0 ?_ | with_reducible refine j3_i1 ?_ | with_reducible refine j3_i2 ?_ | with_reducible refine j1_i0 ?_ | (go_at_call 70; refine HL.out.mono ?_; rintro e w' ⟨rfl, n1, rfl⟩))
          rw [splitW_eq]
          have hcomp := split_compact HE.out HA1.out HLF.out
          have hadd := split_add HE.out HA1.out
          rw [hAc] at hcomp hadd
          refine hcomp.mono ?_
          have HADD := Lib.hid hadd
          clear hcomp hadd q0 q1 q2 q3 q4 y0 y1 y2 y3 y4 qf0 qf1 qf2 qf3 qf4 x0 xf
          rintro e w3 ⟨rfl, n2, rfl⟩
          have htop := ((HE.out.top HA1.out).dr n2).c4
          rw [hAc] at htop
          have q4 : ((splitW w2 q W.heap.size l (nd q) k.length).drewN n2).cell? ⟨q, 4, none⟩ = some (.iface 102 (ptr l)) := htop
          clear htop
          have hmth : ∀ w', (method 270 102 (.pointer (some ⟨l, 0, none⟩)) "loop.example/pub-patriciatries/pub/patricia.add").run Try.prog w' = .ok (112, .pointer (some ⟨l, 0, none⟩)) w' := fun w' => m_add (.sp l a 8 []) w'
          go_wp2_with (first | go_step3 | with_reducible refine j3_i0 ?_ | with_reducible refine j3_i1 ?_ | with_reducible refine j3_i2 ?_ | with_reducible refine j1_i0 ?_ | (go_at_call 70; refine HL.out.mono ?_; rintro e w' ⟨rfl, n1, rfl⟩))
          refine (HADD.out n2).mono ?_
          rintro e w5 ⟨cl', rfl, k1, k2, k3, k4, k5, k6, k7, k8⟩
          have k8' := k8
          rw [← hAc] at k8'
          have v1 := split_q4 HE.out HA1.out k8'
          have z1 : w5.cell? ⟨q, 4, none⟩ = some (.iface 102 (ptr l)) := by rw [cell_of_block v1]; rfl
          have z2 := free_of_block v1 4
          have hsw : (splitW w2 q W.heap.size l (nd q) k.length).heap.size = w2.heap.size := splitW_size
          have k4' : cl'.l = l ∨ w2.heap.size ≤ cl'.l := by rw [← hsw]; exact k4
          have k5' : cl'.a = a ∨ w2.heap.size ≤ cl'.a := by rw [← hsw]; exact k5
          have hsp := split_put HE.out HA1.out HLF.out HQ.out.2.2.2 HQ.out.1 HQ.out.2.2.1 ⟨k1, k2, k3, k4', k5', k8'⟩
          have HSP := Lib.hid hsp
          clear k1 k2 k3 k4 k5 k6 k7 k8 k8' k4' k5' hsw hsp v1 q4 hmth HADD
          simp only [CL.val]
          go_wp2_with (first | go_step3 | with_reducible refine j3_i0 ?_ | with_reducible refine j3_i1 ?_ | with_reducible refine j3_i2 ?_ | with_reducible refine j1_i0 ?_ | (go_at_call 70; refine HL.out.mono ?_; rintro e w' ⟨rfl, n1, rfl⟩))
          have hsp := HSP.out
          clear HSP z1 z2
          simp only [CL.val] at hsp
          generalize w5.setCell ⟨q, 4, none⟩ (.iface cl'.ty (ptr cl'.l)) = W6 at hsp ⊢
          obtain ⟨O6, rp6, N6, nd6, wd6, A6, hq6, L6, it6, wq6, kl6, fb6, O66, T6⟩ := hsp
          have HA6 := Lib.hid A6
          have HT6 := Lib.hid (⟨T6, O66⟩ : _ ∧ _)
          have Hwq : Hid (wd6 q = u ++ k.take k.length) := by
            show wd6 q = _
            have h := lcp_take (nd q).px k
            rw [HC.out] at h
            rw [wq6, h]
          have H6 := Lib.hid (⟨hq6, L6, it6, kl6, fb6⟩ : _ ∧ _ ∧ _ ∧ _ ∧ _)
          clear A6 hq6 L6 it6 wq6 kl6 fb6 O66 T6
          have hK6 : Hid (K = wd6 q) := by show K = wd6 q; rw [Hwq.out, HQ.out.2.1, List.take_length]
          have hM : Hid ((rep || (M K).isNone) = true) := by show _ = true; rw [hK6.out, HA6.out.C.at_ q H6.out.1, H6.out.2.2.1]; simp
          have z1 := (HA6.out.T.H q H6.out.1).c1
          rw [H6.out.2.2.1] at z1
          simp only [itv] at z1
          have z2 := (HA6.out.T.H q H6.out.1).fr 1
          refine wp_loop_rounds 1 ?_
          rw [rounds_succ]
          cases rep <;> go_wp2_with (first | go_step3 | with_reducible refine j3_i0 ?_ | with_reducible refine j3_i1 ?_ | with_reducible refine j3_i2 ?_ | with_reducible refine j1_i0 ?_ | (go_at_call 70; refine HL.out.mono ?_; rintro e w' ⟨rfl, n1, rfl⟩))
          all_goals
            rw [j1_r]
            go_ret
            exact ((put_item HA6 H6.out.2.1 H6.out.1 hK6.out i _ kb 0 hM.out).after HT6.out.1 HT6.out.2).after HT1.out.1 (fun k h => .inl h)
      · have hck : c < k.length := by omega
        have hmc : ¬ m = c := by omega
        have hwq : ∃ u, wd q = u ++ (nd q).px ∧ K = u ++ k := HS.out.1.cut
        obtain ⟨u, hu1, hu2⟩ := hwq
        have hlt := HS.out.1
        have hA0 : (nd q).px.take c ≠ [] ∨ q = t := by
          rcases HS.out.1.hd with h | h
          · exact .inr h
          · left
            intro e
            have h1 := congrArg List.length e
            rw [List.length_take] at h1
            simp only [List.length_nil] at h1
            have h2 : c = 0 := by omega
            rw [← HC.out] at h2
            have h3 := lcp_stop (nd q).px k (by omega) (by rw [h2]; cases hk' : k with
              | nil => rw [hk'] at h; simp at h
              | cons b k' => simp)
            rw [h2] at h3
            apply h3
            rw [← List.head?_eq_getElem?, ← List.head?_eq_getElem?, h]
            unfold Nd.fb
            cases hp : (nd q).px with
            | nil => rw [hp] at hsplit; simp at hsplit
            | cons b k' => simp
        have hmpq : mp = 10 ∨ q = t := HS.out.2.2.2.2.2.imp id (fun h => h.1)
        have HQ := Lib.hid (⟨hu1, hu2, hA0, hmpq⟩ : _ ∧ _ ∧ _ ∧ _)
        clear hu1 hu2 hlt hA0 hmpq
        go_wp2_with (first | go_step3 | with_reducible refine j3_i0 ?_ | with_reducible refine j3_i1 ?_ | with_reducible refine j3_i2 ?_ | with_reducible refine j1_i0 ?_ | (go_at_call 70; refine HL.out.mono ?_; rintro e w' ⟨rfl, n1, rfl⟩))
        refine HJ2.out _ _ ?_
        have A1 := HA.out.dr (n + n1)
        have HS1 : Srch t N nd wd K q k ∧ KS (w.drewN (n + n1)) kb o k := ⟨HS.out.1, HS.out.2.1⟩
        have Hq1 := Hn.out.dr (n + n1)
        have hT1 := Tch.dr (w := w) (T := O) (n + n1)
        have hh1 : (w.drewN (n + n1)).heap = w.heap := rfl
        generalize w.drewN (n + n1) = W at A1 HS1 Hq1 hT1 hh1 ⊢
        have q0 := Hq1.sl (A1.T.np HS1.1.mem)
        have q1 := Hq1.c1
        have q2 := Hq1.c2
        have q3 := Hq1.c3
        have q4 := Hq1.c4
        unfold CL.val at q4
        have hst := fun (W : World) (a : Addr) (md : Mode) => run_store Try.prog W a (itv (nd q).it) md (itv_one _)
        have hqal : ∀ (j : Nat) (o : Obj), (W.alloc o).cell? ⟨q, j, none⟩ = W.cell? ⟨q, j, none⟩ := fun j o => cell_alloc_lt Hq1.obj o 0 j
        have HA1 := Lib.hid A1
        have HS1 := Lib.hid HS1
        have Hq1 := Lib.hid Hq1
        have HT1 := Lib.hid (⟨hT1, hh1⟩ : _ ∧ _)
        clear A1 hT1 hh1
        go_wp2_with (first | go_step3 | with_reducible refine j3_i0 ?_ | with_reducible refine j3_i1 ?_ | with_reducible refine j3_i2 ?_ | with_reducible refine j1_i0 ?_ | (go_at_call 70; refine HL.out.mono ?_; rintro e w' ⟨rfl, n1, rfl⟩))
        clear q0 q1 q2 q3 q4 hst hqal c0 c2
        refine (newTrie_nil _).mono ?_
        rintro e w2 ⟨y, l, a, rfl, hy, hl, ha, hyo, hraw2, hT2⟩
        rw [World.size_alloc] at hy hl ha
        have hqlt : q < W.heap.size := lt_of_heap Hq1.out.obj
        have hyq : ¬ y = q := by omega
        have hyx : ¬ y = W.heap.size := by omega
        have hqx : ¬ q = W.heap.size := by omega
        have hxq : ¬ W.heap.size = q := by omega
        have e2 : w2.heap[q]? = some (nd q).obj := (hT2.keep q (by rw [World.size_alloc]; omega) (fun h => h)).trans (heap_al Hq1.out.obj)
        have e3 : w2.heap[W.heap.size]? = some (nd q).obj := by
          rw [hT2.keep W.heap.size (by rw [World.size_alloc]; omega) (fun h => h), heap_new, Nd.obj, Nd.pv, HA1.out.T.np HS1.out.1.mem]; rfl
        have y0 : w2.cell? ⟨y, 0, none⟩ = some (.slice none 0 0) := by rw [cell_of_block hyo]; rfl
        have y1 : w2.cell? ⟨y, 1, none⟩ = some .nilIface := by rw [cell_of_block hyo]; rfl
        have y2 : w2.cell? ⟨y, 2, none⟩ = some (.int .i64 10) := by rw [cell_of_block hyo]; rfl
        have y3 : w2.cell? ⟨y, 3, none⟩ = some (.int .i64 8) := by rw [cell_of_block hyo]; rfl
        have y4 : w2.cell? ⟨y, 4, none⟩ = some (.iface 102 (ptr l)) := by rw [cell_of_block hyo]; rfl
        have q0 : w2.cell? ⟨q, 0, none⟩ = some (nd q).pv := by rw [cell_of_block e2]; rfl
        have q1 : w2.cell? ⟨q, 1, none⟩ = some (itv (nd q).it) := by rw [cell_of_block e2]; rfl
        have q2 : w2.cell? ⟨q, 2, none⟩ = some (.int .i64 (nd q).mp) := by rw [cell_of_block e2]; rfl
        have q3 : w2.cell? ⟨q, 3, none⟩ = some (.int .i64 (nd q).mc) := by rw [cell_of_block e2]; rfl
        have q4 : w2.cell? ⟨q, 4, none⟩ = some (nd q).cl.val := by rw [cell_of_block e2]; rfl
        have x0 : w2.cell? ⟨W.heap.size, 0, none⟩ = some (.slice (some ⟨(nd q).sb, (nd q).so, none⟩) (nd q).px.length (nd q).sc) := by
          rw [cell_of_block e3, Nd.pv, HA1.out.T.np HS1.out.1.mem]; rfl
        have qf0 := free_of_block e2 0
        have qf1 := free_of_block e2 1
        have qf2 := free_of_block e2 2
        have qf3 := free_of_block e2 3
        have qf4 := free_of_block e2 4
        have xf := free_of_block e3 0
        have HE : Hid (SplitH W w2 N nd q W.heap.size y l a ((nd q).px.take c) ((nd q).px.drop c)) :=
          (⟨HS1.out.1.mem, rfl, (List.take_append_drop _ _).symm, fun h => by have := congrArg List.length h; rw [List.length_drop] at this; simp at this; omega, by omega, by omega, e2, e3, hraw2, ((Tch.refl W _).alloc _).trans hT2 (fun _ _ h => h)⟩ : SplitH W w2 N nd q W.heap.size y l a ((nd q).px.take c) ((nd q).px.drop c))
        have hsc := Hq1.out.le
        have hscc : ¬ (nd q).sc = c := by omega
        have hAc : ((nd q).px.take c).length = c := by rw [List.length_take]; omega
        clear hy hl ha hyo hraw2 hT2 e2 e3
        go_wp2_with (first | go_step3 | with_reducible refine j3_i0 ?_ | with_reducible refine j3_i1 ?_ | with_reducible refine j3_i2 ?_ | with_reducible refine j1_i0 ?_ | (go_at_call 70; refine HL.out.mono ?_; rintro e w' ⟨rfl, n1, rfl⟩))
        rw [splitW_eq]
        have hcomp := split_compact HE.out HA1.out HLF.out
        have hadd := split_add HE.out HA1.out
        rw [hAc] at hcomp hadd
        refine hcomp.mono ?_
        have HADD := Lib.hid hadd
        clear hcomp hadd q0 q1 q2 q3 q4 y0 y1 y2 y3 y4 qf0 qf1 qf2 qf3 qf4 x0 xf
        rintro e w3 ⟨rfl, n2, rfl⟩
        have htop := ((HE.out.top HA1.out).dr n2).c4
        rw [hAc] at htop
        have q4 : ((splitW w2 q W.heap.size l (nd q) c).drewN n2).cell? ⟨q, 4, none⟩ = some (.iface 102 (ptr l)) := htop
        clear htop
        have hmth : ∀ w', (method 270 102 (.pointer (some ⟨l, 0, none⟩)) "loop.example/pub-patriciatries/pub/patricia.add").run Try.prog w' = .ok (112, .pointer (some ⟨l, 0, none⟩)) w' := fun w' => m_add (.sp l a 8 []) w'
        go_wp2_with (first | go_step3 | with_reducible refine j3_i0 ?_ | with_reducible refine j3_i1 ?_ | with_reducible refine j3_i2 ?_ | with_reducible refine j1_i0 ?_ | (go_at_call 70; refine HL.out.mono ?_; rintro e w' ⟨rfl, n1, rfl⟩))
        refine (HADD.out n2).mono ?_
        rintro e w5 ⟨cl', rfl, k1, k2, k3, k4, k5, k6, k7, k8⟩
        have k8' := k8
        rw [← hAc] at k8'
        have v1 := split_q4 HE.out HA1.out k8'
        have z1 : w5.cell? ⟨q, 4, none⟩ = some (.iface 102 (ptr l)) := by rw [cell_of_block v1]; rfl
        have z2 := free_of_block v1 4
        have hsw : (splitW w2 q W.heap.size l (nd q) c).heap.size = w2.heap.size := splitW_size
        have k4' : cl'.l = l ∨ w2.heap.size ≤ cl'.l := by rw [← hsw]; exact k4
        have k5' : cl'.a = a ∨ w2.heap.size ≤ cl'.a := by rw [← hsw]; exact k5
        have hsp := split_put HE.out HA1.out HLF.out HQ.out.2.2.2 HQ.out.1 HQ.out.2.2.1 ⟨k1, k2, k3, k4', k5', k8'⟩
        have HSP := Lib.hid hsp
        clear k1 k2 k3 k4 k5 k6 k7 k8 k8' k4' k5' hsw hsp v1 q4 hmth HADD
        simp only [CL.val]
        go_wp2_with (first | go_step3 | with_reducible refine j3_i0 ?_ | with_reducible refine j3_i1 ?_ | with_reducible refine j3_i2 ?_ | with_reducible refine j1_i0 ?_ | (go_at_call 70; refine HL.out.mono ?_; rintro e w' ⟨rfl, n1, rfl⟩))
        have hsp := HSP.out
        clear HSP z1 z2
        simp only [CL.val] at hsp
        generalize w5.setCell ⟨q, 4, none⟩ (.iface cl'.ty (ptr cl'.l)) = W6 at hsp ⊢
        obtain ⟨O6, rp6, N6, nd6, wd6, A6, hq6, L6, it6, wq6, kl6, fb6, O66, T6⟩ := hsp
        have HA6 := Lib.hid A6
        have HT6 := Lib.hid (⟨T6, O66⟩ : _ ∧ _)
        have Hwq : Hid (wd6 q = u ++ k.take c) := by
          show wd6 q = _
          have h := lcp_take (nd q).px k
          rw [HC.out] at h
          rw [wq6, h]
        have H6 := Lib.hid (⟨hq6, L6, it6, kl6, fb6⟩ : _ ∧ _ ∧ _ ∧ _ ∧ _)
        clear A6 hq6 L6 it6 wq6 kl6 fb6 O66 T6
        have HPT : Hid (PutT W6 t 2 rp6 M O6 N6 nd6 wd6 S sh K (k.drop c) q kb kc (o + c) (m - c)) := by
          have hs := HS.out.2
          have hks := HS.out.1
          have hkb0 : kb < W.heap.size := by
            obtain ⟨C, fr, h1, _⟩ := HK.out.2.2
            have := lt_of_heap h1
            rw [HT1.out.2]
            exact this
          have hkb6 : W6.heap[kb]? = w.heap[kb]? := by rw [HT6.out.1.keep kb hkb0 HKB.out, HT1.out.2]
          have hKA : KeyAt W6 kb kc K := by
            obtain ⟨a1, a2, C, fr, a3, a4, a5⟩ := HK.out
            refine ⟨fun j hj => ?_, a2, C, fr, hkb6.trans a3, a4, fun j hj => by rw [frozen_same hkb6]; exact a5 j hj⟩
            rw [World.cell?_of_block hkb6]
            exact a1 j hj
          refine (⟨HA6.out, H6.out.1, H6.out.2.1, .inr (by rw [H6.out.2.2.2.1]; omega), hKA, fun h => by rcases HT6.out.2 kb h with h | h; exact HKB.out h; omega, by rw [Hwq.out, HQ.out.2.1, List.append_assoc, List.take_append_drop], fun h => ?_, hk1, by rw [List.length_drop]; omega, by omega, by rw [List.length_drop]; omega, fun c' hc' => ?_⟩ : PutT W6 t 2 rp6 M O6 N6 nd6 wd6 S sh K (k.drop c) q kb kc (o + c) (m - c))
          · have := congrArg List.length h
            rw [List.length_drop] at this
            simp at this
            omega
          · rw [H6.out.2.2.2.2 c' hc']
            have hst := lcp_stop (nd q).px k (by rw [HC.out]; exact hsplit) (by rw [HC.out]; exact hck)
            rw [HC.out] at hst
            intro e
            apply hst
            have f : ∀ (l : List UInt8), c < l.length → l[c]? = some ((l.drop c).headD 0) := fun l hl => by
              rw [List.getElem?_eq_getElem hl, List.drop_eq_getElem_cons hl]; rfl
            rw [f _ hsplit, f _ hck, e]
        have hnz2 : (((k.length - c : Nat) : Int) != 0) = true := by rw [bne_iff_ne]; omega
        refine wp_loop_rounds 1 ?_
        rw [rounds_succ]
        go_wp2_with (first | go_step3 | with_reducible refine j3_i0 ?_ | with_reducible refine j3_i1 ?_ | with_reducible refine j3_i2 ?_ | with_reducible refine j1_i0 ?_ | (go_at_call 70; refine HL.out.mono ?_; rintro e w' ⟨rfl, n1, rfl⟩))
        have hq4 := (HPT.out.A.T.H q HPT.out.hq).obj
        have hqlt := lt_of_heap hq4
        have htlt := lt_of_heap (HPT.out.A.T.H t HPT.out.A.T.I.root_mem).obj
        refine (newTrie_nil _).mono ?_
        rintro e w2 ⟨y, l, a, rfl, hy, hl, ha, hyo, hraw2, hT2⟩
        have hy' : W6.heap.size ≤ y := hy
        have hyq : ¬ y = q := by omega
        have hyt : ¬ y = t := by omega
        have c2' : w2.cell? ⟨t, 2, none⟩ = some (.int .i64 10) := by
          rw [cell_of_block ((hT2.keep t htlt (fun h => h)).trans (HPT.out.A.T.H t HPT.out.A.T.I.root_mem).obj)]
          show some (Value.int .i64 (nd6 t).mp) = _
          rw [HPT.out.A.mp]
        have q4' : w2.cell? ⟨q, 4, none⟩ = some (.iface (nd6 q).cl.ty (ptr (nd6 q).cl.l)) := by rw [cell_of_block ((hT2.keep q hqlt (fun h => h)).trans hq4)]; rfl
        have y0 : w2.cell? ⟨y, 0, none⟩ = some (.slice none 0 0) := by rw [cell_of_block hyo]; rfl
        have y1 := free_of_block hyo 0
        have m3 := m_add (nd6 q).cl
        have m4 := f_add (nd6 q).cl
        have HY := Lib.hid (⟨hy, hl, ha, hyo, hraw2, hT2⟩ : _ ∧ _ ∧ _ ∧ _ ∧ _ ∧ _)
        have hkk : ((k.length - c : Nat) : Int) ≤ 10 := by omega
        have hdl : (k.drop c).length = k.length - c := List.length_drop
        clear hy hl ha hyo hraw2 hT2 hq4
        go_wp2_with (first | go_step3 | with_reducible refine j3_i0 ?_ | with_reducible refine j3_i1 ?_ | with_reducible refine j3_i2 ?_ | with_reducible refine j1_i0 ?_ | (go_at_call 70; refine HL.out.mono ?_; rintro e w' ⟨rfl, n1, rfl⟩))
        refine (put_add_call HPT.out.A HPT.out.hq HY.out.1 HY.out.2.2.2.1 HY.out.2.2.2.2.2 (by rfl) (by omega) HPT.out.byte HPT.out.no).mono ?_
        rintro e w4 ⟨cl', rfl, k1, k2, k3, k4, k5, k6, k7, k8⟩
        have hcl' := put_add_cells HPT.out.A HPT.out.hq (w4 := w4) (r := k.drop c) HY.out.1 HY.out.2.2.2.1 HY.out.2.2.2.2.2 (by rw [List.length_drop]; exact k8) (by rfl)
        obtain ⟨v1, v2⟩ := hcl'
        have z1 : w4.cell? ⟨q, 4, none⟩ = some (.iface (nd6 q).cl.ty (ptr (nd6 q).cl.l)) := by rw [cell_of_block v1]; rfl
        have z2 := free_of_block v1 4
        have z3 : w4.cell? ⟨y, 1, none⟩ = some .nilIface := by rw [cell_of_block v2]; rfl
        have z4 := free_of_block v2 1
        have HP := Lib.hid (⟨k1, k2, k3, k4, k5, k8⟩ : _ ∧ _ ∧ _ ∧ _ ∧ _ ∧ _)
        clear k1 k2 k3 k4 k5 k6 k7 k8 v1 v2 y0 y1 q4' c2' m3 m4
        simp only [CL.val]
        cases rep <;> go_wp2_with (first | go_step3 | with_reducible refine j3_i0 ?_ | with_reducible refine j3_i1 ?_ | with_reducible refine j3_i2 ?_ | with_reducible refine j1_i0 ?_ | (go_at_call 70; refine HL.out.mono ?_; rintro e w' ⟨rfl, n1, rfl⟩))
        all_goals
          rw [Exit.noGoto_ret]
          go_ret
          exact ((put_put HPT i _ (by rfl) (by exact Tch.refl _ _) HY hdl.symm HP).after HT6.out.1 HT6.out.2).after HT1.out.1 (fun k h => .inl h)
    · have hcp : c = (nd q).px.length := by omega
      have hmp0 : mp = 10 := by
        rcases HS.out.2.2.2.2.2 with h | h
        · exact h
        · have := HC.out; omega
      subst hmp0
      have HCP := Lib.hid hcp
      clear hcp
      have g2 : ¬ (c : Int) < ((nd q).px.length : Int) := by omega
      by_cases h1 : c = k.length
      · -- the key ends at this node
        subst h1
        have hfull := HS.out.1.full (HC.out.trans HCP.out)
        rw [HC.out, List.drop_length, List.append_nil] at hfull
        have HF := Lib.hid hfull
        have q1 := Hn.out.c1
        clear hfull m1 m2 q4
        cases hit : (nd q).it with
        | none =>
          rw [hit] at q1
          simp only [itv] at q1
          have hM : Hid ((rep || (M K).isNone) = true) := by show _ = true; rw [HF.out, HA.out.C.at_ q HS.out.1.mem, hit]; simp
          clear hit
          have hfr := Hn.out.fr 1
          cases rep <;> by_cases h2 : m = k.length
          all_goals
            try subst h2
            go_wp2_with (first | go_step3 | with_reducible refine j3_i0 ?_ | with_reducible refine j3_i1 ?_ | with_reducible refine j3_i2 ?_ | with_reducible refine j1_i0 ?_ | (go_at_call 70; refine HL.out.mono ?_; rintro e w' ⟨rfl, n1, rfl⟩))
            rw [Exit.noGoto_ret]
            go_ret
            exact put_item HA (HLF.out.x _) HS.out.1.mem HF.out i _ kb _ hM.out
        | some v =>
          rw [hit] at q1
          simp only [itv] at q1
          have hM0 : Hid (M K ≠ none) := by show _ ≠ _; rw [HF.out, HA.out.C.at_ q HS.out.1.mem, hit]; simp
          clear hit
          have hfr := Hn.out.fr 1
          cases rep
          · by_cases h2 : m = k.length
            all_goals
              try subst h2
              go_wp2_with (first | go_step3 | with_reducible refine j3_i0 ?_ | with_reducible refine j3_i1 ?_ | with_reducible refine j3_i2 ?_ | with_reducible refine j1_i0 ?_ | (go_at_call 70; refine HL.out.mono ?_; rintro e w' ⟨rfl, n1, rfl⟩))
              rw [Exit.noGoto_ret]
              go_ret
              exact put_keep HA HLF i kb _ hM0.out
          · by_cases h2 : m = k.length
            all_goals
              try subst h2
              go_wp2_with (first | go_step3 | with_reducible refine j3_i0 ?_ | with_reducible refine j3_i1 ?_ | with_reducible refine j3_i2 ?_ | with_reducible refine j1_i0 ?_ | (go_at_call 70; refine HL.out.mono ?_; rintro e w' ⟨rfl, n1, rfl⟩))
              rw [Exit.noGoto_ret]
              go_ret
              exact put_item HA (HLF.out.x _) HS.out.1.mem HF.out i _ kb _ rfl
      · have hck : c < k.length := by omega
        have hmc : ¬ m = c := by omega
        obtain ⟨b, hb⟩ : ∃ b, (k.drop c).head? = some b := by
          cases hd : k.drop c with
          | nil => have := congrArg List.length hd; rw [List.length_drop] at this; simp at this; omega
          | cons b l => exact ⟨b, rfl⟩
        have hnz : (((k.length - c : Nat) : Int) == 0) = false := by rw [beq_eq_false_iff_ne]; omega
        have hb0 := (HS.out.2.1.drop c).head hb
        have hpos : 0 < k.length - c := by omega
        have HB := Lib.hid hb
        have hfull : lcp (nd q).px k = (nd q).px.length := by rw [HC.out, HCP.out]
        have HFU := Lib.hid hfull
        clear hb hfull
        obtain ⟨x, hx⟩ : ∃ x, (nd q).cl.child (fun c => (nd c).fb) b = x := ⟨_, rfl⟩
        have hnx := next_q w (fun c => (nd c).fb) (nd q).cl b Hn.out.raw (HA.out.T.I.kb HA.out.T.H HS.out.1.mem)
        rw [hx] at hnx
        have HX := Lib.hid hx
        have HNX := Lib.hid hnx
        clear hx hnx
        cases x with
        | none =>
          have hno := find_none HX.out
          have HNO := Lib.hid hno
          clear hno
          go_wp2_with (first | go_step3 | with_reducible refine j3_i0 ?_ | with_reducible refine j3_i1 ?_ | with_reducible refine j3_i2 ?_ | with_reducible refine j1_i0 ?_ | (go_at_call 70; refine HL.out.mono ?_; rintro e w' ⟨rfl, n1, rfl⟩))
          go_quiet (exact qshift HNX.out _ _)
          have hnz2 : (((k.length - c : Nat) : Int) != 0) = true := by rw [bne_iff_ne]; omega
          go_wp2_with (first | go_step3 | with_reducible refine j3_i0 ?_ | with_reducible refine j3_i1 ?_ | with_reducible refine j3_i2 ?_ | with_reducible refine j1_i0 ?_ | (go_at_call 70; refine HL.out.mono ?_; rintro e w' ⟨rfl, n1, rfl⟩))
          refine wp_loop_rounds 1 ?_
          rw [rounds_succ]
          go_wp2_with (first | go_step3 | with_reducible refine j3_i0 ?_ | with_reducible refine j3_i1 ?_ | with_reducible refine j3_i2 ?_ | with_reducible refine j1_i0 ?_ | (go_at_call 70; refine HL.out.mono ?_; rintro e w' ⟨rfl, n1, rfl⟩))
          have hq4 := Hn.out.obj
          have hqN := HS.out.1.mem
          have hqlt := HA.out.lt _ (HA.out.own q hqN).1
          have htlt := HA.out.lt _ (HA.out.own t HA.out.T.I.root_mem).1
          clear m1 m2 q0 q4 c0 c2
          have HPT : Hid (PutT w t 2 rp M O N nd wd S sh K (k.drop c) q kb kc (o + c) (m - c)) := by
            have hK2 := HS.out.1.full HFU.out
            rw [HC.out] at hK2
            have hs := HS.out.2
            have e : (k.drop c).headD 0 = b := by have := HB.out; cases h : k.drop c with
              | nil => rw [h] at this; simp at this
              | cons x l => rw [h] at this; simpa using this
            exact (⟨HA.out, HS.out.1.mem, HLF.out.x q, (HLF.out q HS.out.1.mem).imp id (fun h => by omega), HK.out, HKB.out, hK2, fun h => by rw [h] at e; have := congrArg List.length h; rw [List.length_drop] at this; simp at this; omega, hk1, by rw [List.length_drop]; omega, by omega, by rw [List.length_drop]; omega, fun c hc => by rw [e]; exact HNO.out c hc⟩ : PutT w t 2 rp M O N nd wd S sh K (k.drop c) q kb kc (o + c) (m - c))
          have hdl : (k.drop c).length = k.length - c := List.length_drop
          have hb0 := HPT.out.byte
          refine (newTrie_nil _).mono ?_
          rintro e w2 ⟨y, l, a, rfl, hy, hl, ha, hyo, hraw2, hT2⟩
          have hy' : w.heap.size ≤ y := hy
          have hyq : ¬ y = q := by omega
          have hyt : ¬ y = t := by omega
          have c2' : w2.cell? ⟨t, 2, none⟩ = some (.int .i64 10) := by
            rw [cell_of_block ((hT2.keep t htlt (fun h => h)).trans (HA.out.T.H t HA.out.T.I.root_mem).obj)]
            show some (Value.int .i64 (nd t).mp) = _
            rw [HA.out.mp]
          have q4' : w2.cell? ⟨q, 4, none⟩ = some (.iface (nd q).cl.ty (ptr (nd q).cl.l)) := by rw [cell_of_block ((hT2.keep q hqlt (fun h => h)).trans hq4)]; rfl
          have y0 : w2.cell? ⟨y, 0, none⟩ = some (.slice none 0 0) := by rw [cell_of_block hyo]; rfl
          have y1 := free_of_block hyo 0
          have m3 := m_add (nd q).cl
          have m4 := f_add (nd q).cl
          have HY := Lib.hid (⟨hy, hl, ha, hyo, hraw2, hT2⟩ : _ ∧ _ ∧ _ ∧ _ ∧ _ ∧ _)
          have hkk : ((k.length - c : Nat) : Int) ≤ 10 := by omega
          clear hy hl ha hyo hraw2 hT2 hq4
          go_wp2_with (first | go_step3 | with_reducible refine j3_i0 ?_ | with_reducible refine j3_i1 ?_ | with_reducible refine j3_i2 ?_ | with_reducible refine j1_i0 ?_ | (go_at_call 70; refine HL.out.mono ?_; rintro e w' ⟨rfl, n1, rfl⟩))
          refine (put_add_call HA.out hqN HY.out.1 HY.out.2.2.2.1 HY.out.2.2.2.2.2 (by rfl) hpos hb0 HPT.out.no).mono ?_
          rintro e w4 ⟨cl', rfl, k1, k2, k3, k4, k5, k6, k7, k8⟩
          have hcl' := put_add_cells HA.out hqN (w4 := w4) (r := k.drop c) HY.out.1 HY.out.2.2.2.1 HY.out.2.2.2.2.2 (by rw [List.length_drop]; exact k8) (by rfl)
          obtain ⟨v1, v2⟩ := hcl'
          have z1 : w4.cell? ⟨q, 4, none⟩ = some (.iface (nd q).cl.ty (ptr (nd q).cl.l)) := by rw [cell_of_block v1]; rfl
          have z2 := free_of_block v1 4
          have z3 : w4.cell? ⟨y, 1, none⟩ = some .nilIface := by rw [cell_of_block v2]; rfl
          have z4 := free_of_block v2 1
          have HP := Lib.hid (⟨k1, k2, k3, k4, k5, k8⟩ : _ ∧ _ ∧ _ ∧ _ ∧ _ ∧ _)
          clear k1 k2 k3 k4 k5 k6 k7 k8 v1 v2 y0 y1 q4' c2' m3 m4
          simp only [CL.val]
          cases rep <;> go_wp2_with (first | go_step3 | with_reducible refine j3_i0 ?_ | with_reducible refine j3_i1 ?_ | with_reducible refine j3_i2 ?_ | with_reducible refine j1_i0 ?_ | (go_at_call 70; refine HL.out.mono ?_; rintro e w' ⟨rfl, n1, rfl⟩))
          all_goals
            rw [Exit.noGoto_ret]
            go_ret
            exact put_put HPT i _ (by rfl) (by exact Tch.dr _) HY hdl.symm HP
        | some x =>
          have hxk := find_some HX.out
          have hst := HS.out.1.step HA.out.T.I HFU.out (by rw [HC.out]; exact HB.out) hxk.1 hxk.2
          rw [HC.out] at hst
          have hxr := (HA.out.T.I.kid q HS.out.1.mem x hxk.1).2.1
          have HST : Hid (PutI t N nd wd w 10 kb kc K x (k.drop c) (o + c) (m - c)) :=
            (⟨hst, HS.out.2.1.drop c, by rw [List.length_drop]; have := HS.out.2.2.1; omega, by have := HS.out.2.2.2.1; omega, by rw [List.length_drop]; omega, .inl rfl⟩ : PutI t N nd wd w 10 kb kc K x (k.drop c) (o + c) (m - c))
          have HLT := Lib.hid (step_less HA.out.T.I HS.out.1.mem hxr HCP.out hck)
          clear hxk hst hxr
          go_wp2_with (first | go_step3 | with_reducible refine j3_i0 ?_ | with_reducible refine j3_i1 ?_ | with_reducible refine j3_i2 ?_ | with_reducible refine j1_i0 ?_ | (go_at_call 70; refine HL.out.mono ?_; rintro e w' ⟨rfl, n1, rfl⟩))
          go_quiet (exact qshift HNX.out _ _)
          go_wp2_with (first | go_step3 | with_reducible refine j3_i0 ?_ | with_reducible refine j3_i1 ?_ | with_reducible refine j3_i2 ?_ | with_reducible refine j1_i0 ?_ | (go_at_call 70; refine HL.out.mono ?_; rintro e w' ⟨rfl, n1, rfl⟩))
          go_roundw
          case rel => exact ⟨k.drop c, o + c, m - c, x, _, by rw [List.length_drop], rfl, rfl, by rw [List.length_drop]; omega, by rw [List.length_drop]; omega, HST⟩
          case measure => exact HLT.out

end Go.Proofs.Ytmdbnjepajifpaa
