/- (*Trie).walk with no prefix, as Visit calls it. -/
import Derived.Test.YtmdbnjepajifpaaC7
set_option linter.unusedVariables false
set_option linter.unusedSimpArgs false
namespace Go.Proofs.Ytmdbnjepajifpaa
open Go.RowKit Go.Proofs.YtmdbnjepajifpaaW.PrintWords Go.Proofs.YtmdbnjepajifpaaW.PrintLast Go.Proofs.YtmdbnjepajifpaaW.PrintMore

/-- The words that a walk from a word on visits, the word itself with them. -/
def UndT (M : Wd → Option Int) (skip : Wd → Bool) (b u : Wd) : Prop :=
  M u ≠ none ∧ b <+: u ∧ ∀ s, s <+: u → b.length ≤ s.length → s.length < u.length → M s ≠ none → skip s = false

/-- A visitor, whatever blocks the walk makes for its prefix. -/
structure VisG (F : Nat) (binds : Array Value) (O : Nat → Prop) (base : Nat) (skip : Wd → Bool) (V : Nat → Nat → List Wd → World → Prop) (w : World) : Prop where
  vis : ∀ pb bb, w.heap.size ≤ pb → w.heap.size ≤ bb → Visr F binds base (fun k => O k ∨ k = pb ∨ k = bb) skip (V pb bb)
  start : ∀ pb bb W, w.heap.size ≤ pb → w.heap.size ≤ bb → Tch w W (fun _ => False) → V pb bb [] W

/-- What (*Trie).walk leaves. -/
def TWP (t : Nat) (mp : Int) (rp : Wd) (M : Wd → Option Int) (O : Nat → Prop) (N : Nat → Prop) (wd : Nat → List UInt8) (S : Nat → List UInt8) (sh : Nat → Nat) (base : Nat) (skip : Wd → Bool) (V : Nat → Nat → List Wd → World → Prop) (p : Nat) (w : World) (e : Ending) (w' : World) : Prop :=
  ∃ v, e = .returned v ∧ ∃ pb bb nd' L, TAw w' t mp rp M O N nd' wd S sh ∧ V pb bb L w' ∧ Srt L ∧ (∀ u, u ∈ L ↔ UndT M skip (wd p) u) ∧ Tch w w' (fun k => base ≤ k)

set_option maxRecDepth 100000 in
/-- A copy from nothing. -/
theorem step_copy_none {ops : Array Oper} {o : Oper} {a : Act} {W : World} {K : Act → World → Prop} {Q : Exit → Act → World → Prop} {E : Prop} (hg : o.guard = none) (s x : Operand)
    (hop : o.op = Op.call { callee := Callee.builtin Builtin.copy, args := #[s, x], argTypes := #[53, 53] }) (w0 : World) (hsame : W.heap = w0.heap ∧ W.os = w0.os ∧ W.tape = w0.tape ∧ W.output = w0.output)
    (d : Option Addr) (n cap : Nat) (hs : a.eval s = .slice d n cap) (hx : a.eval x = .slice none 0 0)
    (hK : ∀ w', (w'.heap = w0.heap ∧ w'.os = w0.os ∧ w'.tape = w0.tape ∧ w'.output = w0.output) → K (a.put o.dst (goInt 0)) w') :
    if Region.wanted o (yielded ops a.tmps) = true then Oper.wp Try.prog o a W K Q else E := by
  have hr := run_copy_none (P := Try.prog) W 53 53 o.type 5 d none n cap 0 0 Try.underlying53 (by kernel_rfl) (Nat.zero_min _)
  have hw : Region.wanted o (yielded ops a.tmps) = true := by simp [Region.wanted, hg]
  rw [if_pos hw]
  unfold Oper.wp
  simp [execOp, hop, resolve, invoke, builtin, hs, hx, hr, Result.andThen]
  exact hK W hsame

section
variable {t : Nat} {mp : Int} {rp : Wd} {M : Wd → Option Int} {O : Nat → Prop} {N : Nat → Prop} {wd : Nat → List UInt8} {S : Nat → List UInt8} {sh : Nat → Nat} {base F : Nat} {binds : Array Value} {skip : Wd → Bool} {V : Nat → Nat → List Wd → World → Prop} {nd : Nat → Nd} {w : World}

theorem undT_iff {b u : Wd} : UndT M skip b u ↔ (u = b ∧ M b ≠ none) ∨ ((M b ≠ none → skip b = false) ∧ Und M skip b u) := by
  constructor
  · rintro ⟨h1, h2, h3⟩
    by_cases e : u = b
    · exact .inl ⟨e, by rw [← e]; exact h1⟩
    · right
      have hlt : b.length < u.length := by
        rcases Nat.lt_or_ge b.length u.length with h | h
        · exact h
        · exact absurd (h2.eq_of_length (Nat.le_antisymm h2.length_le h)).symm e
      exact ⟨fun hm => h3 b h2 (Nat.le_refl _) hlt hm, h1, h2, hlt, fun s hs hs1 hs2 hm => h3 s hs (Nat.le_of_lt hs1) hs2 hm⟩
  · rintro (⟨rfl, hm⟩ | ⟨hsk, h1, h2, h3, h4⟩)
    · exact ⟨hm, List.prefix_refl _, fun s hs h1 h2 => by omega⟩
    · refine ⟨h1, h2, fun s hs hs1 hs2 hm => ?_⟩
      rcases Nat.lt_or_eq_of_le hs1 with h | h
      · exact h4 s hs h hs2 hm
      · have : s = b := ((List.prefix_of_prefix_length_le h2 hs (by omega)).eq_of_length h).symm
        rw [this] at hm ⊢
        exact hsk hm

theorem und_visL {b : Wd} {sub : List Wd} (hsk : M b ≠ none → skip b = false) (hs : ∀ u, u ∈ sub ↔ Und M skip b u) (u : Wd) : u ∈ visL M b ++ sub ↔ UndT M skip b u := by
  rw [List.mem_append, visL_mem, hs, undT_iff]
  exact ⟨fun h => h.imp id (fun h => ⟨hsk, h⟩), fun h => h.imp id (fun h => h.2)⟩
theorem und_visS {b : Wd} (hM : M b ≠ none) (hsk : skip b = true) (u : Wd) : u ∈ visL M b ↔ UndT M skip b u := by
  rw [visL_mem, undT_iff]
  refine ⟨.inl, fun h => ?_⟩
  rcases h with h | ⟨h, _⟩
  · exact h
  · have := h hM; rw [hsk] at this; cases this
theorem srt_visL (b : Wd) : Srt (visL M b) := by
  unfold visL
  split
  · exact List.pairwise_singleton _ _
  · exact List.Pairwise.nil
theorem bef_visL (b : Wd) : Bef (visL M b) b := by
  intro u hu v hv hl
  rw [visL_mem] at hu
  rw [hu.1]; exact pre_lt hv hl

/-- The prefix has been laid out: the walk's fixed things. -/
theorem tw_fix (G : VisG F binds O base skip V w) (A : TAw w t mp rp M O N nd wd S sh) (hO : ∀ k, O k → base ≤ k) (hbw : base ≤ w.heap.size) (hfin : ∃ U : List Wd, U.length ≤ 500 ∧ ∀ u, M u ≠ none → u ∈ U) (cap : Nat) :
    WFix t M O w.heap.size (w.heap.size + 1) cap base F binds skip (V w.heap.size (w.heap.size + 1)) :=
  ⟨G.vis _ _ (Nat.le_refl _) (by omega), fun h => Nat.lt_irrefl _ (A.lt _ h), fun h => by have := A.lt _ h; omega, hO, hbw, by omega, hfin⟩

/-- What holds where the prefix has been laid out. -/
theorem tw_start (G : VisG F binds O base skip V w) (A : TAw w t mp rp M O N nd wd S sh) {p n : Nat} (hn : (wd p).length ≤ n ∧ 20 ≤ n ∧ n ≤ 1000) {W1 w' W2 : World} {v1 : Value} (hT1 : Tch w W1 (fun _ => False)) (hp1 : W1.heap[w.heap.size]? = some (.cells #[v1] 53 (0, 0)))
    (hT : Tch W1 w' (fun k => k = w.heap.size + 1)) (hC : ∃ C', w'.heap[w.heap.size + 1]? = some (.cells C' 5 (0, 0)) ∧ n ≤ C'.size ∧ ∀ i, i < (wd p).length → C'[i]? = some (.int .u8 (((wd p).getD i 0).toNat : Int)))
    (h2 : W2.heap = (w'.setCell ⟨w.heap.size, 0, none⟩ (.slice (some ⟨w.heap.size + 1, 0, none⟩) (wd p).length n)).heap) (hm : W2.os = w'.os ∧ W2.tape = w'.tape ∧ W2.output = w'.output) :
    TAw W2 t mp rp M O N nd wd S sh ∧ PB W2 w.heap.size (w.heap.size + 1) n (wd p) ∧ V w.heap.size (w.heap.size + 1) [] W2 ∧ Tch w W2 (fun _ => False) := by
  obtain ⟨C', c1, c2, c3⟩ := hC
  have hp' : w'.heap[w.heap.size]? = some (.cells #[v1] 53 (0, 0)) := (hT.keep _ (lt_of_heap hp1) (by omega)).trans hp1
  have hT4 : Tch w' W2 (fun k => k = w.heap.size) := ⟨hm.1, hm.2.1, hm.2.2, by rw [h2]; simp, fun k _ hk => by rw [h2, heap_set_ne hk]⟩
  have hTw : Tch w W2 (fun _ => False) := ((hT1.trans (U := fun k => k = w.heap.size ∨ k = w.heap.size + 1) (hT.mono (fun _ _ h => .inr h)) (fun b hb h => by omega)).trans hT4 (fun b hb h => by omega))
  refine ⟨hTw.taw A (fun _ _ h => h), ⟨by rw [h2, heap_set hp']; rfl, hn.2.1, hn.2.2, C', by rw [h2, heap_set_ne (by omega)]; exact c1, c2, c3⟩, G.start _ _ _ (Nat.le_refl _) (by omega) hTw, hTw⟩

set_option maxRecDepth 100000 in
set_option maxHeartbeats 6400000 in
theorem twalk0p (G : VisG F binds O base skip V w) (A : TAw w t mp rp M O N nd wd S sh) (hr : (nd t).np = false) (hO : ∀ k, O k → base ≤ k) (hbw : base ≤ w.heap.size) (hfin : ∃ U : List Wd, U.length ≤ 500 ∧ ∀ u, M u ≠ none → u ∈ U) :
    Calls Try.prog 72 #[.pointer (some ⟨t, 0, none⟩), .slice none 0 0, .func (.func F) #[] binds] w (TWP t mp rp M O N wd S sh base skip V t w) := by
  have hN := A.T.H t A.T.I.root_mem
  have c0 := hN.sl hr
  have hl10 := A.T.pxl A.T.I.root_mem
  have htl : t < w.heap.size := lt_of_heap hN.obj
  have hmk := mk_bytes (32 + (nd t).px.length) (32 + ((nd t).px.length : Int)) (by omega) (by omega)
  have hnil := fun (W : World) => Lib.run_eql_slice_nil (P := Try.prog) W 53 5 none 0 0 0 0 Try.underlying53
  have HG := Lib.hid G
  have HA := Lib.hid A
  have HO := Lib.hid hO
  have HF := Lib.hid hfin
  have HN := Lib.hid hN
  clear G A hO hfin hN
  go_enter Try.func72, Try.ntmps72
  go_wp2_with fail
  obtain ⟨n, hn⟩ : ∃ n, 32 + (nd t).px.length = n := ⟨_, rfl⟩
  rw [hn]
  have hw := HA.out.T.I.root_wd
  have hT1 : Tch w ((w.alloc (.cells #[.slice (some ⟨w.heap.size + 1, 0, none⟩) n n] 53)).alloc (.cells (madeCells #[.int .u8 0] n) 5)) (fun _ => False) := ((Tch.refl w _).alloc _).alloc _
  have hp1 : ((w.alloc (.cells #[.slice (some ⟨w.heap.size + 1, 0, none⟩) n n] 53)).alloc (.cells (madeCells #[.int .u8 0] n) 5)).heap[w.heap.size]? = some (.cells #[.slice (some ⟨w.heap.size + 1, 0, none⟩) n n] 53 (0, 0)) := by
    rw [heap_alloc_old _ _ (by simp)]
    exact heap_new w _
  have hb1 : ((w.alloc (.cells #[.slice (some ⟨w.heap.size + 1, 0, none⟩) n n] 53)).alloc (.cells (madeCells #[.int .u8 0] n) 5)).heap[w.heap.size + 1]? = some (.cells (madeCells #[.int .u8 0] n) 5 (0, 0)) := by
    have := heap_new (w.alloc (.cells #[.slice (some ⟨w.heap.size + 1, 0, none⟩) n n] 53)) (.cells (madeCells #[.int .u8 0] n) 5)
    rw [show (w.alloc (.cells #[.slice (some ⟨w.heap.size + 1, 0, none⟩) n n] 53)).heap.size = w.heap.size + 1 by simp] at this
    exact this
  generalize (w.alloc (.cells #[.slice (some ⟨w.heap.size + 1, 0, none⟩) n n] 53)).alloc (.cells (madeCells #[.int .u8 0] n) 5) = W1 at hT1 hp1 hb1 ⊢
  have A1 := hT1.taw HA.out (fun _ _ h => h)
  have hN1 := A1.T.H t A1.T.I.root_mem
  have c0 := hN1.sl hr
  have c3 : W1.cell? ⟨w.heap.size, 0, none⟩ = some (.slice (some ⟨w.heap.size + 1, 0, none⟩) n n) := by rw [cell_of_block hp1]; rfl
  have HKS := Lib.hid (hN1.ks hr)
  have HBB : Hid (∃ C, W1.heap[w.heap.size + 1]? = some (.cells C 5 (0, 0)) ∧ n ≤ C.size) := (⟨_, hb1, by simp [size_madeCells]⟩ : ∃ C, W1.heap[w.heap.size + 1]? = some (.cells C 5 (0, 0)) ∧ n ≤ C.size)
  have H1 := Lib.hid (⟨hT1, hp1⟩ : _ ∧ _)
  have hlen : (nd t).px.length ≤ n := by omega
  clear hT1 hp1 hb1 A1 hN1 hmk hnil
  go_region_law (refine step_copy_bytes rfl (.tmp 18) (.tmp 22) rfl W1 ⟨rfl, rfl, rfl, rfl⟩ (w.heap.size + 1) n n rfl (nd t).sb (nd t).so (nd t).px.length (nd t).sc rfl (nd t).px rfl hlen HKS.out HBB.out ?_; intro w' hT hC; have HT := Lib.hid hT; have HCC := Lib.hid hC; clear hT hC)
  all_goals
    have hTw'' : Tch w w' (fun _ => False) := (H1.out.1.trans (U := fun k => k = w.heap.size + 1) (HT.out.mono (fun _ _ h => h)) (fun b hb h => by omega))
    have c0' := ((hTw''.taw HA.out (fun _ _ h => h)).T.H t HA.out.T.I.root_mem).sl hr
    have hp' : w'.heap[w.heap.size]? = some (.cells #[.slice (some ⟨w.heap.size + 1, 0, none⟩) n n] 53 (0, 0)) := (HT.out.keep _ (lt_of_heap H1.out.2) (by omega)).trans H1.out.2
    have c3' : w'.cell? ⟨w.heap.size, 0, none⟩ = some (.slice (some ⟨w.heap.size + 1, 0, none⟩) n n) := by rw [cell_of_block hp']; rfl
    have f3' := free_of_block hp' 0
    clear hTw'' hp' c0 c3
    go_wp2_with fail
    go_region
    have hst := tw_start HG.out HA.out (p := t) (n := n) (by rw [hw]; omega) H1.out.1 H1.out.2 HT.out (by rw [hw]; exact HCC.out) (W2 := (w'.setCell ⟨w.heap.size, 0, none⟩ (.slice (some ⟨w.heap.size + 1, 0, none⟩) (nd t).px.length n)).drew) (by rw [hw]; rfl) ⟨rfl, rfl, rfl⟩
    generalize (w'.setCell ⟨w.heap.size, 0, none⟩ (.slice (some ⟨w.heap.size + 1, 0, none⟩) (nd t).px.length n)).drew = W2 at hst ⊢
    have HX := Lib.hid (tw_fix HG.out HA.out HO.out hbw HF.out n)
    have htN := HA.out.T.I.root_mem
    have ht10 := HA.out.T.I.len t htN
    have hwl : (wd t).length = (nd t).px.length := by rw [hw]
    obtain ⟨A2, pb2, v2, T2⟩ := hst
    have hen := HX.out.vis.enter
    have d1 := (A2.T.H t htN).c1
    have d4 : W2.cell? ⟨t, 4, none⟩ = some (.iface (nd t).cl.ty (.pointer (some ⟨(nd t).cl.l, 0, none⟩))) := (A2.T.H t htN).c4
    have H2 := Lib.hid (⟨A2, pb2, v2, T2⟩ : _ ∧ _ ∧ _ ∧ _)
    have HNT := Lib.hid htN
    have m1 := m_walk (nd t).cl
    have m2 := f_walk (nd t).cl
    clear A2 pb2 v2 T2 c0' c3' f3' htN
    cases hit : (nd t).it with
    | none =>
      rw [hit] at d1
      simp only [itv] at d1
      have hM : M (wd t) = none := by rw [HA.out.C.at_ t HNT.out, hit]
      have hvl : visL M (wd t) = [] := by unfold visL; rw [hM]; rfl
      have HM := Lib.hid (⟨hM, hvl⟩ : _ ∧ _)
      clear hit hM hvl
      go_wp2_with fail
      refine (walk_all HX.out 11 t (by omega) W2 nd [] ⟨H2.out.1, HNT.out, H2.out.2.1, H2.out.2.2.1, List.Pairwise.nil, fun u hu => (by cases hu), fun u hu => (by cases hu), Nat.le_trans hbw H2.out.2.2.2.size⟩).mono ?_
      rintro e W3 ⟨rfl, nd3, sub, A3, P3, o3, pb3, v3, s3, m3, T3⟩
      rw [List.nil_append] at v3 s3
      have H3 := Lib.hid (⟨A3, v3, s3, m3, T3⟩ : _ ∧ _ ∧ _ ∧ _ ∧ _)
      clear A3 P3 o3 pb3 v3 s3 m3 T3
      go_wp2_with fail
      go_ret
      obtain ⟨A3, v3, s3, m3, T3⟩ := H3.out
      refine ⟨_, rfl, _, _, nd3, sub, A3, v3, s3, fun u => ?_, (H2.out.2.2.2.mono (fun _ _ h => h.elim)).trans T3 (fun _ _ h => h)⟩
      rw [← und_visL (fun h => absurd HM.out.1 h) m3, HM.out.2, List.nil_append]
    | some v =>
      rw [hit] at d1
      simp only [itv] at d1
      have hM : M (wd t) ≠ none := by rw [HA.out.C.at_ t HNT.out, hit]; simp
      have hvl : visL M (wd t) = [wd t] := by unfold visL; rw [HA.out.C.at_ t HNT.out, hit]; rfl
      have HM := Lib.hid (⟨hM, hvl⟩ : _ ∧ _)
      clear hit hM hvl
      have hTd : Tch W2 W2.drew (fun _ => False) := (Tch.refl W2 _).drw
      have AD := hTd.taw H2.out.1 (fun _ _ h => h)
      have pbD := H2.out.2.1.keep hTd (fun h => h) (fun h => h)
      have vD := HX.out.vis.keep _ _ _ H2.out.2.2.1 (hTd.mono (fun _ _ h => h.elim))
      have TD := H2.out.2.2.2.trans hTd (fun _ _ h => h.elim)
      have d1 : W2.drew.cell? ⟨t, 1, none⟩ = some (.iface 3 (.int .i64 v)) := d1
      obtain ⟨W, hW⟩ : ∃ W, W2.drew = W := ⟨_, rfl⟩
      rw [hW] at AD pbD vD TD d1
      have hcall := HX.out.vis.call [] W (wd t) (w.heap.size + 1) 0 n v vD pbD.ks (.inr (.inr rfl)) (by omega) (Nat.zero_le _) (fun k hk => HX.out.bad AD pbD k hk) (Nat.le_trans hbw TD.size)
      have c3 := pbD.c0
      rw [hwl] at hcall
      have HCALL := Lib.hid hcall
      have HD := Lib.hid (⟨AD, pbD, vD, TD⟩ : _ ∧ _ ∧ _ ∧ _)
      have HWW := Lib.hid hW
      clear hcall AD pbD vD TD hTd hW
      go_wp2_with fail
      refine wp_region_tail 6 (by kernel_rfl) (by kernel_rfl) HWW.out ?_
      simp only [List.take_succ_cons, List.take_zero, List.drop_succ_cons, List.drop_zero]
      repeat still_step
      refine wpStill_nil ?_
      go_wp2_with fail
      refine HCALL.out.mono ?_
      rintro e W3 ⟨rfl, vV, TV⟩
      have AV := TV.taw HD.out.1 (fun k hk h => h.1 (.inl hk))
      have pbV := HD.out.2.1.keep TV (fun h => h.1 (.inr (.inl rfl))) (fun h => h.1 (.inr (.inr rfl)))
      have TV : Tch w W3 (fun k => base ≤ k) := (HD.out.2.2.2.mono (fun _ _ h => h.elim)).trans TV (fun _ _ h => h.2)
      have d4 : W3.cell? ⟨t, 4, none⟩ = some (.iface (nd t).cl.ty (.pointer (some ⟨(nd t).cl.l, 0, none⟩))) := (AV.T.H t HNT.out).c4
      rw [List.nil_append, ← HM.out.2] at vV
      have HV2 := Lib.hid (⟨AV, pbV, vV, TV⟩ : _ ∧ _ ∧ _ ∧ _)
      have hE := eq_skip
      have hN := ne_nil
      clear AV pbV TV vV
      cases hsk : skip (wd t) with
      | true =>
        simp only [errV, if_true, skipV]
        have HSK := Lib.hid hsk
        clear hsk
        go_wp2_with fail
        go_ret
        exact ⟨_, rfl, _, _, nd, visL M (wd t), HV2.out.1, HV2.out.2.2.1, srt_visL _, fun u => und_visS HM.out.1 HSK.out u, HV2.out.2.2.2⟩
      | false =>
        simp only [errV, Bool.false_eq_true, if_false]
        have HSK := Lib.hid hsk
        clear hsk
        go_wp2_with fail
        refine (walk_all HX.out 11 t (by omega) W3 nd (visL M (wd t)) ⟨HV2.out.1, HNT.out, HV2.out.2.1, HV2.out.2.2.1, srt_visL _, bef_visL _, fun u hu => by rw [visL_mem] at hu; rw [hu.1]; exact hu.2, Nat.le_trans hbw HV2.out.2.2.2.size⟩).mono ?_
        rintro e W4 ⟨rfl, nd3, sub, A3, P3, o3, pb3, v3, s3, m3, T3⟩
        have H3 := Lib.hid (⟨A3, v3, s3, m3, T3⟩ : _ ∧ _ ∧ _ ∧ _ ∧ _)
        clear A3 P3 o3 pb3 v3 s3 m3 T3
        go_wp2_with fail
        go_ret
        obtain ⟨A3, v3, s3, m3, T3⟩ := H3.out
        exact ⟨_, rfl, _, _, nd3, _, A3, v3, s3, fun u => und_visL (fun _ => HSK.out) m3 u, HV2.out.2.2.2.trans T3 (fun _ _ h => h)⟩

set_option maxRecDepth 100000 in
set_option maxHeartbeats 6400000 in
theorem twalk0n (G : VisG F binds O base skip V w) (A : TAw w t mp rp M O N nd wd S sh) (hr : (nd t).np = true) (hO : ∀ k, O k → base ≤ k) (hbw : base ≤ w.heap.size) (hfin : ∃ U : List Wd, U.length ≤ 500 ∧ ∀ u, M u ≠ none → u ∈ U) :
    Calls Try.prog 72 #[.pointer (some ⟨t, 0, none⟩), .slice none 0 0, .func (.func F) #[] binds] w (TWP t mp rp M O N wd S sh base skip V t w) := by
  have hpx := (A.T.rn hr).1
  have c0 : w.cell? ⟨t, 0, none⟩ = some (.slice none 0 0) := by rw [(A.T.H t A.T.I.root_mem).pv, Nd.pv, hr]; rfl
  have hwl : (wd t).length = 0 := by rw [A.T.I.root_wd, hpx]; rfl
  have htl : t < w.heap.size := lt_of_heap (A.T.H t A.T.I.root_mem).obj
  have hmk := mk_bytes 32 32 (by omega) (by omega)
  have hnil := fun (W : World) => Lib.run_eql_slice_nil (P := Try.prog) W 53 5 none 0 0 0 0 Try.underlying53
  have HG := Lib.hid G
  have HA := Lib.hid A
  have HO := Lib.hid hO
  have HF := Lib.hid hfin
  have HWL := Lib.hid hwl
  clear G A hO hfin hwl
  go_enter Try.func72, Try.ntmps72
  go_wp2_with fail
  have hT1 : Tch w ((w.alloc (.cells #[.slice (some ⟨w.heap.size + 1, 0, none⟩) 32 32] 53)).alloc (.cells (madeCells #[.int .u8 0] 32) 5)) (fun _ => False) := ((Tch.refl w _).alloc _).alloc _
  have hp1 : ((w.alloc (.cells #[.slice (some ⟨w.heap.size + 1, 0, none⟩) 32 32] 53)).alloc (.cells (madeCells #[.int .u8 0] 32) 5)).heap[w.heap.size]? = some (.cells #[.slice (some ⟨w.heap.size + 1, 0, none⟩) 32 32] 53 (0, 0)) := by
    rw [heap_alloc_old _ _ (by simp)]
    exact heap_new w _
  have hb1 : ((w.alloc (.cells #[.slice (some ⟨w.heap.size + 1, 0, none⟩) 32 32] 53)).alloc (.cells (madeCells #[.int .u8 0] 32) 5)).heap[w.heap.size + 1]? = some (.cells (madeCells #[.int .u8 0] 32) 5 (0, 0)) := by
    have := heap_new (w.alloc (.cells #[.slice (some ⟨w.heap.size + 1, 0, none⟩) 32 32] 53)) (.cells (madeCells #[.int .u8 0] 32) 5)
    rw [show (w.alloc (.cells #[.slice (some ⟨w.heap.size + 1, 0, none⟩) 32 32] 53)).heap.size = w.heap.size + 1 by simp] at this
    exact this
  generalize (w.alloc (.cells #[.slice (some ⟨w.heap.size + 1, 0, none⟩) 32 32] 53)).alloc (.cells (madeCells #[.int .u8 0] 32) 5) = W1 at hT1 hp1 hb1 ⊢
  have c0 : W1.cell? ⟨t, 0, none⟩ = some (.slice none 0 0) := by rw [World.cell?_of_block (hT1.keep t htl (fun h => h))]; exact c0
  have c3 : W1.cell? ⟨w.heap.size, 0, none⟩ = some (.slice (some ⟨w.heap.size + 1, 0, none⟩) 32 32) := by rw [cell_of_block hp1]; rfl
  have HBB : Hid (∃ C, W1.heap[w.heap.size + 1]? = some (.cells C 5 (0, 0)) ∧ 32 ≤ C.size) := (⟨_, hb1, by simp [size_madeCells]⟩ : ∃ C, W1.heap[w.heap.size + 1]? = some (.cells C 5 (0, 0)) ∧ 32 ≤ C.size)
  have H1 := Lib.hid (⟨hT1, hp1⟩ : _ ∧ _)
  have C0 := Lib.hid c0
  clear hT1 hp1 hb1 hmk hnil
  go_region_law (refine step_copy_none rfl (.tmp 18) (.tmp 22) rfl W1 ⟨rfl, rfl, rfl, rfl⟩ (some ⟨w.heap.size + 1, 0, none⟩) 32 32 rfl rfl ?_; intro w' hS; have HS := Lib.hid hS; clear hS)
  all_goals
    have hT : Tch W1 w' (fun k => k = w.heap.size + 1) := ⟨HS.out.2.1, HS.out.2.2.1, HS.out.2.2.2, by rw [HS.out.1]; exact Nat.le_refl _, fun k _ _ => by rw [HS.out.1]⟩
    have hC : ∃ C', w'.heap[w.heap.size + 1]? = some (.cells C' 5 (0, 0)) ∧ 32 ≤ C'.size ∧ ∀ i, i < (wd t).length → C'[i]? = some (.int .u8 (((wd t).getD i 0).toNat : Int)) := by
      obtain ⟨C, h1, h2⟩ := HBB.out
      exact ⟨C, by rw [HS.out.1]; exact h1, h2, fun i hi => by rw [HWL.out] at hi; omega⟩
    have HT := Lib.hid hT
    have HCC := Lib.hid hC
    have c0' : w'.cell? ⟨t, 0, none⟩ = some (.slice none 0 0) := by rw [World.cell?_of_block (w := W1) (by rw [HS.out.1])]; exact C0.out
    have hp' : w'.heap[w.heap.size]? = some (.cells #[.slice (some ⟨w.heap.size + 1, 0, none⟩) 32 32] 53 (0, 0)) := (HT.out.keep _ (lt_of_heap H1.out.2) (by omega)).trans H1.out.2
    have c3' : w'.cell? ⟨w.heap.size, 0, none⟩ = some (.slice (some ⟨w.heap.size + 1, 0, none⟩) 32 32) := by rw [cell_of_block hp']; rfl
    have f3' := free_of_block hp' 0
    clear hp' c0 c3 hT hC
    go_wp2_with fail
    go_region
    have hwl := HWL.out
    have hst := tw_start HG.out HA.out (p := t) (n := 32) (by rw [hwl]; omega) H1.out.1 H1.out.2 HT.out HCC.out (W2 := (w'.setCell ⟨w.heap.size, 0, none⟩ (.slice (some ⟨w.heap.size + 1, 0, none⟩) 0 32)).drew) (by rw [hwl]; rfl) ⟨rfl, rfl, rfl⟩
    generalize (w'.setCell ⟨w.heap.size, 0, none⟩ (.slice (some ⟨w.heap.size + 1, 0, none⟩) 0 32)).drew = W2 at hst ⊢
    have HX := Lib.hid (tw_fix HG.out HA.out HO.out hbw HF.out 32)
    have htN := HA.out.T.I.root_mem
    have ht10 := HA.out.T.I.len t htN
    obtain ⟨A2, pb2, v2, T2⟩ := hst
    have hen := HX.out.vis.enter
    have d1 := (A2.T.H t htN).c1
    have d4 : W2.cell? ⟨t, 4, none⟩ = some (.iface (nd t).cl.ty (.pointer (some ⟨(nd t).cl.l, 0, none⟩))) := (A2.T.H t htN).c4
    have H2 := Lib.hid (⟨A2, pb2, v2, T2⟩ : _ ∧ _ ∧ _ ∧ _)
    have HNT := Lib.hid htN
    have m1 := m_walk (nd t).cl
    have m2 := f_walk (nd t).cl
    clear A2 pb2 v2 T2 c0' c3' f3' htN
    cases hit : (nd t).it with
    | none =>
      rw [hit] at d1
      simp only [itv] at d1
      have hM : M (wd t) = none := by rw [HA.out.C.at_ t HNT.out, hit]
      have hvl : visL M (wd t) = [] := by unfold visL; rw [hM]; rfl
      have HM := Lib.hid (⟨hM, hvl⟩ : _ ∧ _)
      clear hit hM hvl
      go_wp2_with fail
      refine (walk_all HX.out 11 t (by omega) W2 nd [] ⟨H2.out.1, HNT.out, H2.out.2.1, H2.out.2.2.1, List.Pairwise.nil, fun u hu => (by cases hu), fun u hu => (by cases hu), Nat.le_trans hbw H2.out.2.2.2.size⟩).mono ?_
      rintro e W3 ⟨rfl, nd3, sub, A3, P3, o3, pb3, v3, s3, m3, T3⟩
      rw [List.nil_append] at v3 s3
      have H3 := Lib.hid (⟨A3, v3, s3, m3, T3⟩ : _ ∧ _ ∧ _ ∧ _ ∧ _)
      clear A3 P3 o3 pb3 v3 s3 m3 T3
      go_wp2_with fail
      go_ret
      obtain ⟨A3, v3, s3, m3, T3⟩ := H3.out
      refine ⟨_, rfl, _, _, nd3, sub, A3, v3, s3, fun u => ?_, (H2.out.2.2.2.mono (fun _ _ h => h.elim)).trans T3 (fun _ _ h => h)⟩
      rw [← und_visL (fun h => absurd HM.out.1 h) m3, HM.out.2, List.nil_append]
    | some v =>
      rw [hit] at d1
      simp only [itv] at d1
      have hM : M (wd t) ≠ none := by rw [HA.out.C.at_ t HNT.out, hit]; simp
      have hvl : visL M (wd t) = [wd t] := by unfold visL; rw [HA.out.C.at_ t HNT.out, hit]; rfl
      have HM := Lib.hid (⟨hM, hvl⟩ : _ ∧ _)
      clear hit hM hvl
      have hTd : Tch W2 W2.drew (fun _ => False) := (Tch.refl W2 _).drw
      have AD := hTd.taw H2.out.1 (fun _ _ h => h)
      have pbD := H2.out.2.1.keep hTd (fun h => h) (fun h => h)
      have vD := HX.out.vis.keep _ _ _ H2.out.2.2.1 (hTd.mono (fun _ _ h => h.elim))
      have TD := H2.out.2.2.2.trans hTd (fun _ _ h => h.elim)
      have d1 : W2.drew.cell? ⟨t, 1, none⟩ = some (.iface 3 (.int .i64 v)) := d1
      obtain ⟨W, hW⟩ : ∃ W, W2.drew = W := ⟨_, rfl⟩
      rw [hW] at AD pbD vD TD d1
      have hcall := HX.out.vis.call [] W (wd t) (w.heap.size + 1) 0 32 v vD pbD.ks (.inr (.inr rfl)) (by omega) (Nat.zero_le _) (fun k hk => HX.out.bad AD pbD k hk) (Nat.le_trans hbw TD.size)
      have c3 := pbD.c0
      rw [hwl] at hcall
      have HCALL := Lib.hid hcall
      have HD := Lib.hid (⟨AD, pbD, vD, TD⟩ : _ ∧ _ ∧ _ ∧ _)
      have HWW := Lib.hid hW
      clear hcall AD pbD vD TD hTd hW
      go_wp2_with fail
      refine wp_region_tail 6 (by kernel_rfl) (by kernel_rfl) HWW.out ?_
      simp only [List.take_succ_cons, List.take_zero, List.drop_succ_cons, List.drop_zero]
      repeat still_step
      refine wpStill_nil ?_
      go_wp2_with fail
      refine HCALL.out.mono ?_
      rintro e W3 ⟨rfl, vV, TV⟩
      have AV := TV.taw HD.out.1 (fun k hk h => h.1 (.inl hk))
      have pbV := HD.out.2.1.keep TV (fun h => h.1 (.inr (.inl rfl))) (fun h => h.1 (.inr (.inr rfl)))
      have TV : Tch w W3 (fun k => base ≤ k) := (HD.out.2.2.2.mono (fun _ _ h => h.elim)).trans TV (fun _ _ h => h.2)
      have d4 : W3.cell? ⟨t, 4, none⟩ = some (.iface (nd t).cl.ty (.pointer (some ⟨(nd t).cl.l, 0, none⟩))) := (AV.T.H t HNT.out).c4
      rw [List.nil_append, ← HM.out.2] at vV
      have HV2 := Lib.hid (⟨AV, pbV, vV, TV⟩ : _ ∧ _ ∧ _ ∧ _)
      have hE := eq_skip
      have hN := ne_nil
      clear AV pbV TV vV
      cases hsk : skip (wd t) with
      | true =>
        simp only [errV, if_true, skipV]
        have HSK := Lib.hid hsk
        clear hsk
        go_wp2_with fail
        go_ret
        exact ⟨_, rfl, _, _, nd, visL M (wd t), HV2.out.1, HV2.out.2.2.1, srt_visL _, fun u => und_visS HM.out.1 HSK.out u, HV2.out.2.2.2⟩
      | false =>
        simp only [errV, Bool.false_eq_true, if_false]
        have HSK := Lib.hid hsk
        clear hsk
        go_wp2_with fail
        refine (walk_all HX.out 11 t (by omega) W3 nd (visL M (wd t)) ⟨HV2.out.1, HNT.out, HV2.out.2.1, HV2.out.2.2.1, srt_visL _, bef_visL _, fun u hu => by rw [visL_mem] at hu; rw [hu.1]; exact hu.2, Nat.le_trans hbw HV2.out.2.2.2.size⟩).mono ?_
        rintro e W4 ⟨rfl, nd3, sub, A3, P3, o3, pb3, v3, s3, m3, T3⟩
        have H3 := Lib.hid (⟨A3, v3, s3, m3, T3⟩ : _ ∧ _ ∧ _ ∧ _ ∧ _)
        clear A3 P3 o3 pb3 v3 s3 m3 T3
        go_wp2_with fail
        go_ret
        obtain ⟨A3, v3, s3, m3, T3⟩ := H3.out
        exact ⟨_, rfl, _, _, nd3, _, A3, v3, s3, fun u => und_visL (fun _ => HSK.out) m3 u, HV2.out.2.2.2.trans T3 (fun _ _ h => h)⟩

theorem twalk0 (G : VisG F binds O base skip V w) (A : TAw w t mp rp M O N nd wd S sh) (hO : ∀ k, O k → base ≤ k) (hbw : base ≤ w.heap.size) (hfin : ∃ U : List Wd, U.length ≤ 500 ∧ ∀ u, M u ≠ none → u ∈ U) :
    Calls Try.prog 72 #[.pointer (some ⟨t, 0, none⟩), .slice none 0 0, .func (.func F) #[] binds] w (TWP t mp rp M O N wd S sh base skip V t w) := by
  cases hr : (nd t).np with
  | false => exact twalk0p G A hr hO hbw hfin
  | true => exact twalk0n G A hr hO hbw hfin
end

end Go.Proofs.Ytmdbnjepajifpaa
