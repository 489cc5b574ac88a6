/- (*Trie).walk with a given prefix, as VisitSubtree calls it. -/
import Derived.Test.YtmdbnjepajifpaaC7
set_option linter.unusedVariables false
set_option linter.unusedSimpArgs false
namespace Go.Proofs.Ytmdbnjepajifpaa
open Go.RowKit Go.Proofs.YtmdbnjepajifpaaW.PrintWords Go.Proofs.YtmdbnjepajifpaaW.PrintLast Go.Proofs.YtmdbnjepajifpaaW.PrintMore

set_option maxRecDepth 100000 in
theorem wpList_copy_bytes {ops : Array Oper} {rest : List Oper} {o : Oper} {a : Act} {W : World} {Q : Exit → Act → World → Prop} (hg : o.guard = none) (s x : Operand)
    (hop : o.op = Op.call { callee := Callee.builtin Builtin.copy, args := #[s, x], argTypes := #[53, 53] }) (w0 : World) (hsame : W.heap = w0.heap ∧ W.os = w0.os ∧ W.tape = w0.tape ∧ W.output = w0.output)
    (b n cap : Nat) (hs : a.eval s = .slice (some ⟨b, 0, none⟩) n cap) (xb xo m xc : Nat) (hx : a.eval x = .slice (some ⟨xb, xo, none⟩) m xc) (u : List UInt8) (hm : u.length = m) (hmn : u.length ≤ n) (hu : KS w0 xb xo u)
    (hblk : ∃ C, w0.heap[b]? = some (.cells C 5 (0, 0)) ∧ n ≤ C.size)
    (hK : ∀ w', Tch w0 w' (fun k => k = b) → (∃ C', w'.heap[b]? = some (.cells C' 5 (0, 0)) ∧ n ≤ C'.size ∧ ∀ i, i < u.length → C'[i]? = some (.int .u8 ((u.getD i 0).toNat : Int))) → wpList Try.prog ops Q rest (a.put o.dst (goInt m)) w') :
    wpList Try.prog ops Q (o :: rest) a W := by
  subst hm
  obtain ⟨w', hr, hT, hC⟩ := copy_run o.type W w0 hsame b n cap xb xo xc u hmn hu hblk
  refine wpList_plain hg fun K hK' => ?_
  unfold Oper.wp
  simp [execOp, hop, resolve, invoke, builtin, hs, hx, hr, Result.andThen]
  exact hK' _ _ (hK w' hT hC)

section
variable {t : Nat} {mp : Int} {rp : Wd} {M : Wd → Option Int} {O : Nat → Prop} {N : Nat → Prop} {wd : Nat → List UInt8} {S : Nat → List UInt8} {sh : Nat → Nat} {base F : Nat} {binds : Array Value} {skip : Wd → Bool} {V : Nat → Nat → List Wd → World → Prop} {nd : Nat → Nd} {w : World}

set_option maxRecDepth 100000 in
set_option maxHeartbeats 6400000 in
theorem twalk1 (G : VisG F binds O base skip V w) (A : TA w t mp rp M O N nd wd S sh) (hO : ∀ k, O k → base ≤ k) (hbw : base ≤ w.heap.size) (hfin : ∃ U : List Wd, U.length ≤ 500 ∧ ∀ u, M u ≠ none → u ∈ U) (p : Nat) (hp : N p) (kb ko kc : Nat) (hk : KS w kb ko (wd p)) :
    Calls Try.prog 72 #[.pointer (some ⟨p, 0, none⟩), .slice (some ⟨kb, ko, none⟩) (wd p).length kc, .func (.func F) #[] binds] w (TWP t mp rp M O N wd S sh base skip V p w) := by
  have ht10 := A.T.I.len p hp
  obtain ⟨n, hn⟩ : ∃ n, 32 + (wd p).length = n := ⟨_, rfl⟩
  obtain ⟨q, hq⟩ : ∃ q, (wd p).length = q := ⟨_, rfl⟩
  have hwl : (wd p).length = q := hq
  have hq10 : q ≤ 10 := by omega
  rw [hq] at hn
  have hmk := mk_bytes n (32 + (q : Int)) (by omega) (by omega)
  have hnil := fun (W : World) => Lib.run_eql_slice_nil (P := Try.prog) W 53 5 (some ⟨kb, ko, none⟩) q kc 0 0 Try.underlying53
  have hT1 : Tch w ((w.alloc (.cells #[.slice (some ⟨w.heap.size + 1, 0, none⟩) n n] 53)).alloc (.cells (madeCells #[.int .u8 0] n) 5)) (fun _ => False) := ((Tch.refl w _).alloc _).alloc _
  have hp1 : ((w.alloc (.cells #[.slice (some ⟨w.heap.size + 1, 0, none⟩) n n] 53)).alloc (.cells (madeCells #[.int .u8 0] n) 5)).heap[w.heap.size]? = some (.cells #[.slice (some ⟨w.heap.size + 1, 0, none⟩) n n] 53 (0, 0)) := by
    rw [heap_alloc_old _ _ (by simp)]
    exact heap_new w _
  have hb1 : ((w.alloc (.cells #[.slice (some ⟨w.heap.size + 1, 0, none⟩) n n] 53)).alloc (.cells (madeCells #[.int .u8 0] n) 5)).heap[w.heap.size + 1]? = some (.cells (madeCells #[.int .u8 0] n) 5 (0, 0)) := by
    have := heap_new (w.alloc (.cells #[.slice (some ⟨w.heap.size + 1, 0, none⟩) n n] 53)) (.cells (madeCells #[.int .u8 0] n) 5)
    rw [show (w.alloc (.cells #[.slice (some ⟨w.heap.size + 1, 0, none⟩) n n] 53)).heap.size = w.heap.size + 1 by simp] at this
    exact this
  obtain ⟨W1, hW1⟩ : ∃ W1, (w.alloc (.cells #[.slice (some ⟨w.heap.size + 1, 0, none⟩) n n] 53)).alloc (.cells (madeCells #[.int .u8 0] n) 5) = W1 := ⟨_, rfl⟩
  rw [hW1] at hT1 hp1 hb1
  have hKS : KS W1 kb ko (wd p) := hk.keep hT1 (fun h => h)
  have HKS := Lib.hid hKS
  have HBB : Hid (∃ C, W1.heap[w.heap.size + 1]? = some (.cells C 5 (0, 0)) ∧ n ≤ C.size) := (⟨_, hb1, by simp [size_madeCells]⟩ : ∃ C, W1.heap[w.heap.size + 1]? = some (.cells C 5 (0, 0)) ∧ n ≤ C.size)
  have H1 := Lib.hid (⟨hT1, hp1, hW1⟩ : _ ∧ _ ∧ _)
  have HQ := Lib.hid hq
  have hlen : q ≤ n := by omega
  have HG := Lib.hid G
  have HA := Lib.hid A
  have HO := Lib.hid hO
  have HF := Lib.hid hfin
  have HP := Lib.hid hp
  have hlen' : (wd p).length ≤ n := by omega
  rw [hq]
  clear G A hO hfin hp hT1 hp1 hb1 hKS hk hq hW1 hwl
  go_enter Try.func72, Try.ntmps72
  go_upto_region 9 with (first | ((with_reducible refine gate_builtin (b := .copy) (xs := #[.tmp 35, .tmp 36]) rfl ?_); go_loud (rw [H1.out.2.2]; refine wpList_copy_bytes rfl (.tmp 35) (.tmp 36) rfl W1 ⟨rfl, rfl, rfl, rfl⟩ (w.heap.size + 1) n n rfl kb ko q kc rfl (wd p) HQ.out hlen' HKS.out HBB.out ?_); intro w' hT hC; have hp' := ((hT.keep _ (lt_of_heap H1.out.2.1) (by omega)).trans H1.out.2.1); have c3' : w'.cell? ⟨w.heap.size, 0, none⟩ = some (.slice (some ⟨w.heap.size + 1, 0, none⟩) n n) := (by rw [cell_of_block hp']; rfl); have f3' := free_of_block hp' 0; have HT := Lib.hid hT; have HCC := Lib.hid hC; clear hp' hT hC))
  have hwl := HQ.out
  have hst := tw_start HG.out HA.out (p := p) (n := n) (by rw [hwl]; omega) H1.out.1 H1.out.2.1 HT.out HCC.out (W2 := w'.setCell ⟨w.heap.size, 0, none⟩ (.slice (some ⟨w.heap.size + 1, 0, none⟩) q n)) (by rw [hwl]) ⟨rfl, rfl, rfl⟩
  generalize w'.setCell ⟨w.heap.size, 0, none⟩ (.slice (some ⟨w.heap.size + 1, 0, none⟩) q n) = W2 at hst ⊢
  have HX := Lib.hid (tw_fix HG.out HA.out HO.out hbw HF.out n)
  have htN := HP.out
  have ht10 := HA.out.T.I.len p htN
  try clear hmk
  try clear hnil
  try clear hlen'
  obtain ⟨A2, pb2, v2, T2⟩ := hst
  have hen := HX.out.vis.enter
  have d1 := (A2.T.H p htN).c1
  have d4 : W2.cell? ⟨p, 4, none⟩ = some (.iface (nd p).cl.ty (.pointer (some ⟨(nd p).cl.l, 0, none⟩))) := (A2.T.H p htN).c4
  have H2 := Lib.hid (⟨A2, pb2, v2, T2⟩ : _ ∧ _ ∧ _ ∧ _)
  have HNT := Lib.hid htN
  have m1 := m_walk (nd p).cl
  have m2 := f_walk (nd p).cl
  clear A2 pb2 v2 T2 c3' f3' htN
  cases hit : (nd p).it with
  | none =>
    rw [hit] at d1
    simp only [itv] at d1
    have hM : M (wd p) = none := by rw [HA.out.C.at_ p HNT.out, hit]
    have hvl : visL M (wd p) = [] := by unfold visL; rw [hM]; rfl
    have HM := Lib.hid (⟨hM, hvl⟩ : _ ∧ _)
    clear hit hM hvl
    go_wp2_with fail
    refine (walk_all HX.out 11 p (by omega) W2 nd [] ⟨H2.out.1, HNT.out, H2.out.2.1, H2.out.2.2.1, List.Pairwise.nil, fun u hu => (by cases hu), fun u hu => (by cases hu), Nat.le_trans hbw H2.out.2.2.2.size⟩).mono ?_
    rintro e W3 ⟨rfl, nd3, sub, A3, P3, o3, pb3, v3, s3, m3, T3⟩
    rw [List.nil_append] at v3 s3
    have H3 := Lib.hid (⟨A3, v3, s3, m3, T3⟩ : _ ∧ _ ∧ _ ∧ _ ∧ _)
    clear A3 P3 o3 pb3 v3 s3 m3 T3
    go_wp2_with fail
    go_ret
    obtain ⟨A3, v3, s3, m3, T3⟩ := H3.out
    refine ⟨_, rfl, _, _, nd3, sub, A3, v3, s3, fun u => ?_, (H2.out.2.2.2.mono (fun _ _ h => h.elim)).trans T3 (fun _ _ h => h)⟩
    rw [← und_visL (fun h => absurd HM.out.1 h) m3, HM.out.2, List.nil_append]
  | some v =>
    rw [hit] at d1
    simp only [itv] at d1
    have hM : M (wd p) ≠ none := by rw [HA.out.C.at_ p HNT.out, hit]; simp
    have hvl : visL M (wd p) = [wd p] := by unfold visL; rw [HA.out.C.at_ p HNT.out, hit]; rfl
    have HM := Lib.hid (⟨hM, hvl⟩ : _ ∧ _)
    clear hit hM hvl
    have hTd : Tch W2 W2.drew (fun _ => False) := (Tch.refl W2 _).drw
    have AD := hTd.ta H2.out.1 (fun _ _ h => h)
    have pbD := H2.out.2.1.keep hTd (fun h => h) (fun h => h)
    have vD := HX.out.vis.keep _ _ _ H2.out.2.2.1 (hTd.mono (fun _ _ h => h.elim))
    have TD := H2.out.2.2.2.trans hTd (fun _ _ h => h.elim)
    have d1 : W2.drew.cell? ⟨p, 1, none⟩ = some (.iface 3 (.int .i64 v)) := d1
    obtain ⟨W, hW⟩ : ∃ W, W2.drew = W := ⟨_, rfl⟩
    rw [hW] at AD pbD vD TD d1
    have hcall := HX.out.vis.call [] W (wd p) (w.heap.size + 1) 0 n v vD pbD.ks (.inr (.inr rfl)) (by omega) (Nat.zero_le _) (fun k hk => HX.out.bad AD pbD k hk) (Nat.le_trans hbw TD.size)
    have c3 := pbD.c0
    rw [hwl] at hcall
    have HCALL := Lib.hid hcall
    have HD := Lib.hid (⟨AD, pbD, vD, TD⟩ : _ ∧ _ ∧ _ ∧ _)
    have HWW := Lib.hid hW
    clear hcall AD pbD vD TD hTd hW
    go_wp2_with fail
    refine wp_region_tail 6 (by kernel_rfl) (by kernel_rfl) HWW.out ?_
    simp only [List.take_succ_cons, List.take_zero, List.drop_succ_cons, List.drop_zero]
    repeat still_step
    refine wpStill_nil ?_
    go_wp2_with fail
    refine HCALL.out.mono ?_
    rintro e W3 ⟨rfl, vV, TV⟩
    have AV := TV.ta HD.out.1 (fun k hk h => h.1 (.inl hk))
    have pbV := HD.out.2.1.keep TV (fun h => h.1 (.inr (.inl rfl))) (fun h => h.1 (.inr (.inr rfl)))
    have TV : Tch w W3 (fun k => base ≤ k) := (HD.out.2.2.2.mono (fun _ _ h => h.elim)).trans TV (fun _ _ h => h.2)
    have d4 : W3.cell? ⟨p, 4, none⟩ = some (.iface (nd p).cl.ty (.pointer (some ⟨(nd p).cl.l, 0, none⟩))) := (AV.T.H p HNT.out).c4
    rw [List.nil_append, ← HM.out.2] at vV
    have HV2 := Lib.hid (⟨AV, pbV, vV, TV⟩ : _ ∧ _ ∧ _ ∧ _)
    have hE := eq_skip
    have hN := ne_nil
    clear AV pbV TV vV
    cases hsk : skip (wd p) with
    | true =>
      simp only [errV, if_true, skipV]
      have HSK := Lib.hid hsk
      clear hsk
      go_wp2_with fail
      go_ret
      exact ⟨_, rfl, _, _, nd, visL M (wd p), HV2.out.1, HV2.out.2.2.1, srt_visL _, fun u => und_visS HM.out.1 HSK.out u, HV2.out.2.2.2⟩
    | false =>
      simp only [errV, Bool.false_eq_true, if_false]
      have HSK := Lib.hid hsk
      clear hsk
      go_wp2_with fail
      refine (walk_all HX.out 11 p (by omega) W3 nd (visL M (wd p)) ⟨HV2.out.1, HNT.out, HV2.out.2.1, HV2.out.2.2.1, srt_visL _, bef_visL _, fun u hu => by rw [visL_mem] at hu; rw [hu.1]; exact hu.2, Nat.le_trans hbw HV2.out.2.2.2.size⟩).mono ?_
      rintro e W4 ⟨rfl, nd3, sub, A3, P3, o3, pb3, v3, s3, m3, T3⟩
      have H3 := Lib.hid (⟨A3, v3, s3, m3, T3⟩ : _ ∧ _ ∧ _ ∧ _ ∧ _)
      clear A3 P3 o3 pb3 v3 s3 m3 T3
      go_wp2_with fail
      go_ret
      obtain ⟨A3, v3, s3, m3, T3⟩ := H3.out
      exact ⟨_, rfl, _, _, nd3, _, A3, v3, s3, fun u => und_visL (fun _ => HSK.out) m3 u, HV2.out.2.2.2.trans T3 (fun _ _ h => h)⟩

end

end Go.Proofs.Ytmdbnjepajifpaa
