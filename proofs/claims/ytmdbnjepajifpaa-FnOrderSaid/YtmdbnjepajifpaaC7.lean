/- Tries in memory, part C7. Lemmas; no statement of their own. -/
import Derived.Test.YtmdbnjepajifpaaC6
import Derived.RegionTactic
import Derived.Deep.RegionLaw
import Derived.Laws.IdiomCopy

/- (*sparseChildList).walk. -/
set_option linter.unusedVariables false
set_option linter.unusedSimpArgs false
namespace Go.Proofs.Ytmdbnjepajifpaa
open Go.RowKit Go.Proofs.YtmdbnjepajifpaaW.PrintWords Go.Proofs.YtmdbnjepajifpaaW.PrintLast Go.Proofs.YtmdbnjepajifpaaW.PrintMore

section
variable {t : Nat} {mp : Int} {rp : Wd} {M : Wd → Option Int} {O : Nat → Prop} {N : Nat → Prop} {wd : Nat → List UInt8} {S : Nat → List UInt8} {sh : Nat → Nat} {pb bb cap base F : Nat} {binds : Array Value} {skip : Wd → Bool} {V : List Wd → World → Prop} {nd nd1 ndk : Nat → Nd} {p c l a cp : Nat} {acc L : List Wd} {w wr : World} {ks : List Nat}

/-- Order and keys where the next child has been visited, or has no item. -/
theorem walk_srt (H : WPre t mp rp M O N wd S sh pb bb cap base V nd p acc w) (h : WLoop t mp rp M O N wd S sh pb bb cap base skip V nd nd1 p acc w ks ndk L wr) (hks : ∀ d, d ∈ ks → d ∈ (ndk p).cl.kids) (hc : c ∈ (ndk p).cl.kids) (hlt : ∀ d, d ∈ ks → (ndk d).px < (ndk c).px) :
    Srt (acc ++ (L ++ visL M (wd c))) ∧ Bef (acc ++ (L ++ visL M (wd c))) (wd c) ∧ ∀ u, u ∈ acc ++ (L ++ visL M (wd c)) → M u ≠ none := by
  have hb := bef_kid h.A.T.I H.hp hks hc hlt H.bef h.mem
  have hs : ∀ x, x ∈ acc ++ L → x < wd c := fun x hx => hb x hx _ (List.prefix_refl _)
  have hm : ∀ u, u ∈ acc ++ L → M u ≠ none := fun u hu => by
    rw [List.mem_append] at hu
    rcases hu with hu | hu
    · exact H.mem u hu
    · exact ((h.mem u).1 hu).1.1
  rw [← List.append_assoc]
  unfold visL
  cases hM : M (wd c) with
  | none =>
    simp only [Option.isSome_none, Bool.false_eq_true, if_false, List.append_nil]
    exact ⟨h.srt, bef_of hb, hm⟩
  | some x =>
    simp only [Option.isSome_some, if_true]
    refine ⟨srt_snoc h.srt hs, bef_snoc hb, fun u hu => ?_⟩
    rw [List.mem_append, List.mem_singleton] at hu
    rcases hu with hu | hu
    · exact hm u hu
    · rw [hu, hM]; simp

theorem take_snoc {α : Type} {l : List α} {k : Nat} {x : α} (h : l[k]? = some x) : l.take (k + 1) = l.take k ++ [x] := by
  rw [List.take_add_one, h]; rfl

theorem pairwise_get {α : Type} {R : α → α → Prop} {l : List α} (h : l.Pairwise R) {i j : Nat} {x y : α} (hij : i < j) (hx : l[i]? = some x) (hy : l[j]? = some y) : R x y := by
  obtain ⟨h1, e1⟩ := List.getElem?_eq_some_iff.1 hx
  obtain ⟨h2, e2⟩ := List.getElem?_eq_some_iff.1 hy
  rw [← e1, ← e2]
  exact List.pairwise_iff_getElem.1 h i j h1 h2 hij

/-- Behind the walk over what lies beneath a child. -/
theorem walk_backU (X : WFix t M O pb bb cap base F binds skip V) (h : WLoop t mp rp M O N wd S sh pb bb cap base skip V nd nd1 p acc w ks ndk L wr) (hp : N p) (hks : ∀ d, d ∈ ks → d ∈ (ndk p).cl.kids) (hc : c ∈ (ndk p).cl.kids) {W2 W3 W4 : World} {nd3 : Nat → Nd} {sub : List Wd}
    (A3 : TAw W3 t mp rp M O N nd3 wd S sh) (P3 : NdP N ndk nd3) (o3 : ∀ x, N x → ¬ wd c <+: wd x → nd3 x = ndk x) (pb3 : PB W3 pb bb cap (wd c)) (v3 : V (acc ++ (L ++ visL M (wd c)) ++ sub) W3) (s3 : Srt (acc ++ (L ++ visL M (wd c)) ++ sub))
    (hsk : M (wd c) ≠ none → skip (wd c) = false) (hsub : ∀ u, u ∈ sub ↔ Und M skip (wd c) u) (T2 : Tch w W2 (fun k => base ≤ k)) (T3 : Tch W2 W3 (fun k => base ≤ k))
    (h4 : W4.heap = (W3.setCell ⟨pb, 0, none⟩ (.slice (some ⟨bb, 0, none⟩) (wd p).length cap)).heap) (hm : W4.os = W3.os ∧ W4.tape = W3.tape ∧ W4.output = W3.output) :
    WLoop t mp rp M O N wd S sh pb bb cap base skip V nd nd1 p acc w (ks ++ [c]) nd3 (L ++ visL M (wd c) ++ sub) W4 := by
  rw [List.append_assoc] at v3 s3
  exact walk_back X h hp hks hc A3 P3 o3 pb3 v3 s3 (fun u => ⟨fun hu => ⟨hsk, (hsub u).1 hu⟩, fun hu => (hsub u).2 hu.2⟩) (T2.trans T3 (fun _ _ h => h)) h4 hm

/-- Behind a child that is skipped. -/
theorem walk_backS (X : WFix t M O pb bb cap base F binds skip V) (h : WLoop t mp rp M O N wd S sh pb bb cap base skip V nd nd1 p acc w ks ndk L wr) (hp : N p) (hks : ∀ d, d ∈ ks → d ∈ (ndk p).cl.kids) (hc : c ∈ (ndk p).cl.kids) {W3 W4 : World}
    (A3 : TAw W3 t mp rp M O N ndk wd S sh) (pb3 : PB W3 pb bb cap (wd c)) (v3 : V (acc ++ (L ++ visL M (wd c))) W3) (s3 : Srt (acc ++ (L ++ visL M (wd c))))
    (hM : M (wd c) ≠ none) (hsk : skip (wd c) = true) (T3 : Tch w W3 (fun k => base ≤ k))
    (h4 : W4.heap = (W3.setCell ⟨pb, 0, none⟩ (.slice (some ⟨bb, 0, none⟩) (wd p).length cap)).heap) (hm : W4.os = W3.os ∧ W4.tape = W3.tape ∧ W4.output = W3.output) :
    WLoop t mp rp M O N wd S sh pb bb cap base skip V nd nd1 p acc w (ks ++ [c]) ndk (L ++ visL M (wd c) ++ []) W4 := by
  refine walk_back X h hp hks hc A3 (NdP.refl _ _) (fun _ _ _ => rfl) pb3 (by rw [List.append_nil]; exact v3) (by rw [List.append_nil]; exact s3) (fun u => ⟨fun hu => (by cases hu), fun hu => ?_⟩) T3 h4 hm
  have := hu.1 hM
  rw [hsk] at this
  cases this

/-- What sort.Sort needs. -/
theorem walk_sort (H : WPre t mp rp M O N wd S sh pb bb cap base V nd p acc w) (hcl : (nd p).cl = .sp l a cp ks) :
    Calls Try.prog 123 #[.iface 103 (.slice (some ⟨a, 0, none⟩) ks.length cp)] w (SortP w a cp (fun c => (nd c).px) ks) := by
  have hraw := (H.A.T.H p H.hp).raw
  have hk := H.A.T.I.nodup p H.hp
  have hkid := H.A.T.I.kid p H.hp
  have hne := H.A.T.I.ne p H.hp
  have ha : (nd p).cl.a = a := by rw [hcl]; rfl
  rw [hcl] at hraw hk hkid hne
  obtain ⟨r1, r2, r3, C, r4, r5, r6⟩ := hraw
  refine sort_any w a cp (fun c => (nd c).px) ks ⟨Tch.refl _ _, r2, C, r4, r5, r6⟩ (by omega) (fun W hT c hc => ?_) (fun c d hc hd e => hne c d hc hd (by unfold Nd.fb; rw [show (nd c).px = (nd d).px from e])) hk
  obtain ⟨h1, h2, h3, h4⟩ := hkid c hc
  have hN := H.A.T.H c h1
  have hnp := H.A.T.np h1 h2
  have hl := H.A.T.pxl h1
  refine PxAt.later (w0 := w) ⟨(nd c).sb, (nd c).so, (nd c).sc, hN.sl hnp, hN.ks hnp, by show (nd c).px.length ≤ 1000; omega, List.length_pos_iff.2 h4⟩ hT (by rw [← ha]; exact (H.A.T.a_ne H.hp h1).symm) (fun sb so n cp2 e => ?_)
  rw [hN.sl hnp] at e
  injection e with e
  injection e with e _ _
  injection e with e
  injection e with e _ _
  rw [← e, ← ha]
  exact H.A.T.sa_ne h1 H.hp

set_option maxRecDepth 100000 in
set_option maxHeartbeats 6400000 in
theorem sp_walk (X : WFix t M O pb bb cap base F binds skip V) (H : WPre t mp rp M O N wd S sh pb bb cap base V nd p acc w) (hcl : (nd p).cl = .sp l a cp ks) (IH : ∀ c, c ∈ ks → WalkIH t mp rp M O N wd S sh pb bb cap base F binds skip V c) :
    Calls Try.prog 120 #[.pointer (some ⟨l, 0, none⟩), .pointer (some ⟨pb, 0, none⟩), .func (.func F) #[] binds] w (WPost t mp rp M O N wd S sh pb bb cap base skip V nd p acc w) := by
  have HSORT := Lib.hid (walk_sort H hcl)
  have hraw := (H.A.T.H p H.hp).raw
  rw [hcl] at hraw
  obtain ⟨r1, r2, r3, _⟩ := hraw
  have c0 : w.cell? ⟨l, 0, none⟩ = some (.slice (some ⟨a, 0, none⟩) ks.length cp) := by rw [cell_of_block r1]; rfl
  have hen := X.vis.enter
  have HX := Lib.hid X
  have HH := Lib.hid H
  have HCL := Lib.hid hcl
  have HIH := Lib.hid IH
  clear X H hcl IH r1
  go_enter Try.func120, Try.ntmps120
  go_wp2_with fail
  refine HSORT.out.mono ?_
  intro e w1 hS
  obtain ⟨he, ks', hperm, hns, hW, hcl'⟩ := walk_start HX.out HH.out HCL.out hS
  subst he
  have hraw := (hW.A.T.H p HH.out.hp).raw
  rw [hcl'] at hraw
  obtain ⟨r1, _⟩ := hraw
  have hlen : ks'.length ≤ 12 := by rw [hperm.length_eq]; omega
  have c1 : w1.cell? ⟨l, 0, none⟩ = some (.slice (some ⟨a, 0, none⟩) ks'.length cp) := by rw [cell_of_block r1]; rfl
  obtain ⟨nd1, hnd1⟩ : ∃ nd1, upd nd p { nd p with cl := .sp l a cp ks' } = nd1 := ⟨_, rfl⟩
  rw [hnd1] at hW hcl'
  have HND := Lib.hid hnd1
  have HW := Lib.hid hW
  have HCLS := Lib.hid hcl'
  have HNS := Lib.hid hns
  have HPERM := Lib.hid hperm
  clear hW hcl' hns hperm hS HSORT c0 r1 r2 r3 hnd1
  go_wp2_with fail
  go_loopw [22] (fun i wr => ∃ (k : Nat) (ndk : Nat → Nd) (L : List Wd), i = .int .i64 (k : Int) ∧ k ≤ ks'.length ∧ Hid (WLoop t mp rp M O N wd S sh pb bb cap base skip V nd nd1 p acc w (ks'.take k) ndk L wr)) (fun i _ => ks'.length - (intOf i).toNat)
  case atStart => exact ⟨0, nd1, [], rfl, Nat.zero_le _, HW.out⟩
  case round =>
    obtain ⟨k, ndk, L, rfl, hkl, HL⟩ := hrel
    by_cases hk : k < ks'.length
    · obtain ⟨c, hc⟩ : ∃ c, ks'[k]? = some c := ⟨_, List.getElem?_eq_getElem hk⟩
      have hcl := HCLS.out
      rw [← HL.out.at_] at hcl
      have hraw := (HL.out.A.T.H p HH.out.hp).raw
      rw [hcl] at hraw
      obtain ⟨r1, _, _, C, r4, r5, r6⟩ := hraw
      have hck : c ∈ (ndk p).cl.kids := by rw [hcl]; exact List.mem_of_getElem? hc
      have hks : ∀ d, d ∈ ks'.take k → d ∈ (ndk p).cl.kids := fun d hd => by rw [hcl]; exact List.mem_of_mem_take hd
      obtain ⟨hcN, hw, hpx, h10, hHN, hnp⟩ := HL.out.kid HH.out.hp hck
      have hlt : ∀ d, d ∈ ks'.take k → (ndk d).px < (ndk c).px := fun d hd => by
        obtain ⟨h1, _⟩ := HL.out.A.T.I.kid p HH.out.hp d (hks d hd)
        rw [(HL.out.P d h1).2.2.2.2.1, (HL.out.P c hcN).2.2.2.2.1]
        obtain ⟨i, hi⟩ := List.getElem?_of_mem hd
        rw [List.getElem?_take] at hi
        split at hi
        · rename_i hik
          exact pairwise_get HNS.out hik hi hc
        · cases hi
      obtain ⟨s1, s2, s3⟩ := walk_srt HH.out HL.out hks hck hlt
      have hll : (wd c).length = (wd p).length + (ndk c).px.length := by rw [hw, List.length_append]
      have hcap := HL.out.pbw.2.1
      have hcap2 := HL.out.pbw.2.2.1
      have c2 : wr.cell? ⟨a, k, none⟩ = some (.pointer (some ⟨c, 0, none⟩)) := by rw [cell_of_block r4]; exact r6 k c hc
      have c3 := HL.out.pbw.c0
      have f3 := free_of_block HL.out.pbw.1 0
      have c4 := hHN.sl hnp
      have hroom : (wd p).length + (ndk c).px.length ≤ cap := by omega
      have g1 : (k : Int) < (ks'.length : Int) := by omega
      have HC := Lib.hid (⟨hc, hcl, hck, hks, hcN, hw, hpx, hHN, hnp⟩ : _ ∧ _ ∧ _ ∧ _ ∧ _ ∧ _ ∧ _ ∧ _ ∧ _)
      have HS := Lib.hid (⟨s1, s2, s3⟩ : _ ∧ _ ∧ _)
      have HKS := Lib.hid (hHN.ks hnp)
      have HBB : Hid (∃ (C : Array Value) (fr : Nat × Nat), wr.heap[bb]? = some (.cells C 5 fr) ∧ 0 + cap ≤ C.size ∧ (∀ i, i < C.size → wr.frozen? ⟨bb, i, none⟩ = false)) := by
        obtain ⟨_, _, _, C, b1, b2, _⟩ := HL.out.pbw
        show ∃ _, _
        exact ⟨C, _, b1, by omega, fun i _ => free_of_block b1 i⟩
      have HPB := Lib.hid HL.out.pbw.1
      have HNE := Lib.hid HL.out.pbw.ne
      have hcb : c ≠ bb := fun e => HX.out.obb (by rw [← e]; exact (HL.out.A.own c hcN).1)
      have HCO := Lib.hid hHN.obj
      clear hc hcl hck hks hcN hw hpx hHN hnp s1 s2 s3 hlt r1 r4 r5 r6 C
      go_wp2_with fail
      go_region_law (refine step_append_bytes_in rfl (.tmp 29) (.tmp 33) rfl wr ⟨rfl, rfl, rfl, rfl⟩ bb 0 (wd p).length cap rfl (ndk c).sb (ndk c).so (ndk c).px.length (ndk c).sc rfl (ndk c).px rfl HKS.out HBB.out hroom ?_; intro w' hT hC; have q1 : w'.frozen? ⟨pb, 0, none⟩ = false := (by rw [frozen_same (hT.keep pb (lt_of_heap HPB.out) HNE.out)]; exact f3); have q2 : w'.cell? ⟨pb, 0, none⟩ = some (.slice (some ⟨bb, 0, none⟩) (wd p).length cap) := (by rw [cell_of_block ((hT.keep pb (lt_of_heap HPB.out) HNE.out).trans HPB.out)]; rfl); have HT := Lib.hid hT; have HCC := Lib.hid hC; clear hT hC)
      all_goals
        have h2 := walk_in HX.out HL.out HH.out.hp HC.out.2.2.1 HT.out HCC.out (W2 := w'.setCell ⟨pb, 0, none⟩ (.slice (some ⟨bb, 0, none⟩) ((wd p).length + (ndk c).px.length) cap)) rfl
        generalize w'.setCell ⟨pb, 0, none⟩ (.slice (some ⟨bb, 0, none⟩) ((wd p).length + (ndk c).px.length) cap) = W2 at h2 ⊢
        obtain ⟨A2, pb2, v2, T2⟩ := h2
        have hN2 := A2.T.H c HC.out.2.2.2.2.1
        have d1 := hN2.c1
        have d4 : W2.cell? ⟨c, 4, none⟩ = some (.iface (ndk c).cl.ty (.pointer (some ⟨(ndk c).cl.l, 0, none⟩))) := hN2.c4
        have d0 := hN2.sl HC.out.2.2.2.2.2.2.2.2
        have H2 := Lib.hid (⟨A2, pb2, v2, T2⟩ : _ ∧ _ ∧ _ ∧ _)
        have m1 := m_walk (ndk c).cl
        have m2 := f_walk (ndk c).cl
        clear A2 pb2 v2 T2 hN2 c1 c2 c3 c4 f3 q1 q2
        cases hit : (ndk c).it with
        | none =>
          rw [hit] at d1
          simp only [itv] at d1
          have hM : M (wd c) = none := by rw [H2.out.1.C.at_ c HC.out.2.2.2.2.1, hit]
          have hvl : visL M (wd c) = [] := by unfold visL; rw [hM]; rfl
          have HM := Lib.hid (⟨hM, hvl⟩ : _ ∧ _)
          clear hit hM hvl
          go_wp2_with fail
          refine (HIH.out c (by have h := HC.out.1; exact List.mem_of_getElem? h |> HPERM.out.mem_iff.1) W2 ndk (acc ++ (L ++ visL M (wd c))) ⟨H2.out.1, HC.out.2.2.2.2.1, H2.out.2.1, by rw [HM.out.2, List.append_nil]; exact H2.out.2.2.1, HS.out.1, HS.out.2.1, HS.out.2.2, Nat.le_trans HH.out.bw H2.out.2.2.2.size⟩).mono ?_
          rintro e W3 ⟨rfl, nd3, sub, A3, P3, o3, pb3, v3, s3, m3, T3⟩
          have d0 := (by have h := A3.T.H c HC.out.2.2.2.2.1; exact h.sl (A3.T.np HC.out.2.2.2.2.1 (HL.out.A.T.I.kid p HH.out.hp c HC.out.2.2.1).2.1) : W3.cell? ⟨c, 0, none⟩ = _)
          have hpl : (nd3 c).px.length = (ndk c).px.length := by rw [(P3 c HC.out.2.2.2.2.1).2.2.2.2.1]
          rw [hpl] at d0
          have c3 := pb3.c0
          have f3 := free_of_block pb3.1 0
          have e1 : IntKind.i64.wrap (((wd c).length : Int) - ((ndk c).px.length : Int)) = ((wd p).length : Int) := by rw [IntWalk.i64_in _ (by omega)]; omega
          have g2 : (wd p).length ≤ cap := by omega
          have H3 := Lib.hid (⟨A3, P3, o3, pb3, v3, s3, m3, T3⟩ : _ ∧ _ ∧ _ ∧ _ ∧ _ ∧ _ ∧ _ ∧ _)
          clear A3 P3 o3 pb3 v3 s3 m3 T3 hpl d1 d4 m1 m2
          go_wp2_with fail
          go_region
          go_wp2_with fail
          go_roundw
          case rel =>
            refine ⟨k + 1, nd3, L ++ visL M (wd c) ++ sub, by go_num, by omega, (?_ : WLoop t mp rp M O N wd S sh pb bb cap base skip V nd nd1 p acc w (ks'.take (k + 1)) nd3 (L ++ visL M (wd c) ++ sub) _)⟩
            obtain ⟨A3, P3, o3, pb3, v3, s3, m3, T3⟩ := H3.out
            rw [take_snoc HC.out.1]
            exact walk_backU HX.out HL.out HH.out.hp HC.out.2.2.2.1 HC.out.2.2.1 A3 P3 o3 pb3 v3 s3 (fun h => absurd HM.out.1 h) m3 H2.out.2.2.2 T3 rfl ⟨rfl, rfl, rfl⟩
          case measure => simp [intOf]; omega
        | some v =>
          rw [hit] at d1
          simp only [itv] at d1
          have hM : M (wd c) ≠ none := by rw [H2.out.1.C.at_ c HC.out.2.2.2.2.1, hit]; simp
          have hvl : visL M (wd c) = [wd c] := by unfold visL; rw [H2.out.1.C.at_ c HC.out.2.2.2.2.1, hit]; rfl
          have HM := Lib.hid (⟨hM, hvl⟩ : _ ∧ _)
          clear hit hM hvl
          have hacc := acc_len HX.out.fin HL.out.srt (fun u hu => HS.out.2.2 u (by rw [← List.append_assoc]; exact List.mem_append_left _ hu))
          have hTd : Tch W2 W2.drew (fun _ => False) := (Tch.refl W2 _).drw
          have AD := hTd.taw H2.out.1 (fun _ _ h => h)
          have pbD := H2.out.2.1.keep hTd (fun h => h) (fun h => h)
          have vD := HX.out.vis.keep _ _ _ H2.out.2.2.1 (hTd.mono (fun _ _ h => h.elim))
          have TD := H2.out.2.2.2.trans hTd (fun _ _ h => h.elim)
          have d1 : W2.drew.cell? ⟨c, 1, none⟩ = some (.iface 3 (.int .i64 v)) := d1
          obtain ⟨W, hW⟩ : ∃ W, W2.drew = W := ⟨_, rfl⟩
          rw [hW] at AD pbD vD TD d1
          have hcall := HX.out.vis.call (acc ++ L) W (wd c) bb 0 cap v vD pbD.ks (.inr (.inr rfl)) (by omega) (by omega) (fun k hk => HX.out.bad AD pbD k hk) (Nat.le_trans HH.out.bw TD.size)
          have c3 := pbD.c0
          rw [hll] at hcall
          have HCALL := Lib.hid hcall
          have HD := Lib.hid (⟨AD, pbD, vD, TD⟩ : _ ∧ _ ∧ _ ∧ _)
          have HWW := Lib.hid hW
          clear hcall AD pbD vD TD hTd hW
          go_wp2_with fail
          refine wp_region_tail 8 (by kernel_rfl) (by kernel_rfl) HWW.out ?_
          simp only [List.take_succ_cons, List.take_zero, List.drop_succ_cons, List.drop_zero]
          repeat still_step
          refine wpStill_nil ?_
          go_wp2_with fail
          refine HCALL.out.mono ?_
          rintro e W3 ⟨rfl, vV, TV⟩
          have AV := TV.taw HD.out.1 (fun k hk h => h.1 (.inl hk))
          have pbV := HD.out.2.1.keep TV (fun h => h.1 (.inr (.inl rfl))) (fun h => h.1 (.inr (.inr rfl)))
          have TV := HD.out.2.2.2.trans TV (fun _ _ h => h.2)
          have c3 := pbV.c0
          have f3 := free_of_block pbV.1 0
          have d0 := (AV.T.H c HC.out.2.2.2.2.1).sl HC.out.2.2.2.2.2.2.2.2
          have d4 : W3.cell? ⟨c, 4, none⟩ = some (.iface (ndk c).cl.ty (.pointer (some ⟨(ndk c).cl.l, 0, none⟩))) := (AV.T.H c HC.out.2.2.2.2.1).c4
          have vV : V (acc ++ (L ++ visL M (wd c))) W3 := by rw [HM.out.2, ← List.append_assoc]; exact vV
          have HV2 := Lib.hid (⟨AV, pbV, vV, TV⟩ : _ ∧ _ ∧ _ ∧ _)
          have hE := eq_skip
          have hN := ne_nil
          clear AV pbV TV vV
          cases hsk : skip (wd c) with
          | true =>
            simp only [errV, if_true, skipV]
            have HSK := Lib.hid hsk
            have e1 : IntKind.i64.wrap (((wd c).length : Int) - ((ndk c).px.length : Int)) = ((wd p).length : Int) := by rw [IntWalk.i64_in _ (by omega)]; omega
            have g2 : (wd p).length ≤ cap := by omega
            clear hsk
            go_wp2_with fail
            go_region
            go_wp2_with fail
            go_roundw
            case rel =>
              refine ⟨k + 1, ndk, L ++ visL M (wd c) ++ [], by go_num, by omega, (?_ : WLoop t mp rp M O N wd S sh pb bb cap base skip V nd nd1 p acc w (ks'.take (k + 1)) ndk (L ++ visL M (wd c) ++ []) _)⟩
              obtain ⟨A3, pb3, v3, T3⟩ := HV2.out
              rw [take_snoc HC.out.1]
              exact walk_backS HX.out HL.out HH.out.hp HC.out.2.2.2.1 HC.out.2.2.1 A3 pb3 v3 HS.out.1 HM.out.1 HSK.out T3 rfl ⟨rfl, rfl, rfl⟩
            case measure => simp [intOf]; omega
          | false =>
            simp only [errV, Bool.false_eq_true, if_false]
            have HSK := Lib.hid hsk
            clear hsk
            go_wp2_with fail
            refine (HIH.out c (by have h := HC.out.1; exact List.mem_of_getElem? h |> HPERM.out.mem_iff.1) W3 ndk (acc ++ (L ++ visL M (wd c))) ⟨HV2.out.1, HC.out.2.2.2.2.1, HV2.out.2.1, HV2.out.2.2.1, HS.out.1, HS.out.2.1, HS.out.2.2, Nat.le_trans HH.out.bw HV2.out.2.2.2.size⟩).mono ?_
            rintro e W4 ⟨rfl, nd3, sub, A3, P3, o3, pb3, v3, s3, m3, T3⟩
            have d0 := (by have h := A3.T.H c HC.out.2.2.2.2.1; exact h.sl (A3.T.np HC.out.2.2.2.2.1 (HL.out.A.T.I.kid p HH.out.hp c HC.out.2.2.1).2.1) : W4.cell? ⟨c, 0, none⟩ = _)
            have hpl : (nd3 c).px.length = (ndk c).px.length := by rw [(P3 c HC.out.2.2.2.2.1).2.2.2.2.1]
            rw [hpl] at d0
            have c3 := pb3.c0
            have f3 := free_of_block pb3.1 0
            have e1 : IntKind.i64.wrap (((wd c).length : Int) - ((ndk c).px.length : Int)) = ((wd p).length : Int) := by rw [IntWalk.i64_in _ (by omega)]; omega
            have g2 : (wd p).length ≤ cap := by omega
            have H3 := Lib.hid (⟨A3, P3, o3, pb3, v3, s3, m3, T3⟩ : _ ∧ _ ∧ _ ∧ _ ∧ _ ∧ _ ∧ _ ∧ _)
            clear A3 P3 o3 pb3 v3 s3 m3 T3 hpl d4 m1 m2
            go_wp2_with fail
            go_region
            go_wp2_with fail
            go_roundw
            case rel =>
              refine ⟨k + 1, nd3, L ++ visL M (wd c) ++ sub, by go_num, by omega, (?_ : WLoop t mp rp M O N wd S sh pb bb cap base skip V nd nd1 p acc w (ks'.take (k + 1)) nd3 (L ++ visL M (wd c) ++ sub) _)⟩
              obtain ⟨A3, P3, o3, pb3, v3, s3, m3, T3⟩ := H3.out
              rw [take_snoc HC.out.1]
              exact walk_backU HX.out HL.out HH.out.hp HC.out.2.2.2.1 HC.out.2.2.1 A3 P3 o3 pb3 v3 s3 (fun _ => HSK.out) m3 HV2.out.2.2.2 T3 rfl ⟨rfl, rfl, rfl⟩
            case measure => simp [intOf]; omega
    · have hkk : k = ks'.length := by omega
      subst hkk
      have g1 : ¬ (ks'.length : Int) < (ks'.length : Int) := by omega
      go_wp2_with fail
      go_ret
      refine HL.out.post HH.out.hp (fun c hc => ?_)
      rw [HL.out.at_, HCLS.out] at hc
      rw [List.take_length]
      exact hc
end

end Go.Proofs.Ytmdbnjepajifpaa

/- (*denseChildList).walk. -/
namespace Go.Proofs.Ytmdbnjepajifpaa
open Go.RowKit Go.Proofs.YtmdbnjepajifpaaW.PrintWords Go.Proofs.YtmdbnjepajifpaaW.PrintLast Go.Proofs.YtmdbnjepajifpaaW.PrintMore

theorem take_fm_some {l : List (Option Nat)} {k c : Nat} (h : l[k]? = some (some c)) : (l.take (k + 1)).filterMap id = (l.take k).filterMap id ++ [c] := by
  rw [take_snoc h, List.filterMap_append]; rfl
theorem take_fm_none {l : List (Option Nat)} {k : Nat} (h : l[k]? = some none) : (l.take (k + 1)).filterMap id = (l.take k).filterMap id := by
  rw [take_snoc h, List.filterMap_append, show ([none] : List (Option Nat)).filterMap id = [] from rfl, List.append_nil]
theorem px_lt {u v : Wd} (hu : u ≠ []) (hv : v ≠ []) (h : (u.headD 0).toNat < (v.headD 0).toNat) : u < v := by
  cases u with
  | nil => exact absurd rfl hu
  | cons x u =>
    cases v with
    | nil => exact absurd rfl hv
    | cons y v =>
      rw [List.cons_lt_cons_iff]
      exact .inl h

section
variable {t : Nat} {mp : Int} {rp : Wd} {M : Wd → Option Int} {O : Nat → Prop} {N : Nat → Prop} {wd : Nat → List UInt8} {S : Nat → List UInt8} {sh : Nat → Nat} {pb bb cap base F : Nat} {binds : Array Value} {skip : Wd → Bool} {V : List Wd → World → Prop} {nd nd1 ndk : Nat → Nd} {p c l a cp mn hi : Nat} {acc L : List Wd} {w wr : World} {arr : List (Option Nat)}

set_option maxRecDepth 100000 in
set_option maxHeartbeats 6400000 in
theorem dn_walk (X : WFix t M O pb bb cap base F binds skip V) (H : WPre t mp rp M O N wd S sh pb bb cap base V nd p acc w) (hcl : (nd p).cl = .dn l a mn hi arr) (IH : ∀ c, c ∈ arr.filterMap id → WalkIH t mp rp M O N wd S sh pb bb cap base F binds skip V c) :
    Calls Try.prog 152 #[.pointer (some ⟨l, 0, none⟩), .pointer (some ⟨pb, 0, none⟩), .func (.func F) #[] binds] w (WPost t mp rp M O N wd S sh pb bb cap base skip V nd p acc w) := by
  have hraw := (H.A.T.H p H.hp).raw
  rw [hcl] at hraw
  obtain ⟨r1, r2, _⟩ := hraw
  have c0 : w.cell? ⟨l, 4, none⟩ = some (.slice (some ⟨a, 0, none⟩) arr.length arr.length) := by rw [cell_of_block r1]; rfl
  have hen := X.vis.enter
  have hW : WLoop t mp rp M O N wd S sh pb bb cap base skip V nd nd p acc w ((arr.take 0).filterMap id) nd [] w := ⟨H.A, NdP.refl _ _, rfl, fun _ _ _ => rfl, H.pbw, by rw [List.append_nil]; exact H.v, by rw [List.append_nil]; exact H.srt, fun u => ⟨fun h => (by cases h), fun ⟨_, d, h, _⟩ => (by cases h)⟩, Tch.refl _ _⟩
  have HX := Lib.hid X
  have HH := Lib.hid H
  have HCL := Lib.hid hcl
  have HIH := Lib.hid IH
  have HW := Lib.hid hW
  have hlen : arr.length ≤ 256 := by omega
  clear X H hcl IH r1 r2 hW
  go_enter Try.func152, Try.ntmps152
  go_wp2_with fail
  go_loopw [16] (fun i wr => ∃ (k : Nat) (ndk : Nat → Nd) (L : List Wd), i = .int .i64 (k : Int) ∧ k ≤ arr.length ∧ Hid (WLoop t mp rp M O N wd S sh pb bb cap base skip V nd nd p acc w ((arr.take k).filterMap id) ndk L wr)) (fun i _ => arr.length - (intOf i).toNat)
  case atStart => exact ⟨0, nd, [], rfl, Nat.zero_le _, HW.out⟩
  case round =>
    obtain ⟨k, ndk, L, rfl, hkl, HL⟩ := hrel
    by_cases hk : k < arr.length
    · obtain ⟨x, hc⟩ : ∃ x, arr[k]? = some x := ⟨_, List.getElem?_eq_getElem hk⟩
      have hcl := HCL.out
      rw [← HL.out.at_] at hcl
      have hraw := (HL.out.A.T.H p HH.out.hp).raw
      have hplc := HL.out.A.T.I.placed p HH.out.hp
      rw [hcl] at hraw hplc
      obtain ⟨r1, r2, r3, r4, r5⟩ := hraw
      have g1 : (k : Int) < (arr.length : Int) := by omega
      cases x with
      | none =>
        have c2 : wr.cell? ⟨a, k, none⟩ = some (.pointer none) := by rw [cell_of_block r5, List.getElem?_toArray, List.getElem?_map, hc]; rfl
        have HC := Lib.hid hc
        clear hc hcl hplc r1 r2 r3 r4 r5
        go_wp2_with fail
        go_roundw
        case rel =>
          refine ⟨k + 1, ndk, L, by go_num, by omega, (?_ : WLoop t mp rp M O N wd S sh pb bb cap base skip V nd nd p acc w ((arr.take (k + 1)).filterMap id) ndk L _)⟩
          rw [take_fm_none HC.out]
          exact HL.out
        case measure => simp [intOf]; omega
      | some c =>
        have hck : c ∈ (ndk p).cl.kids := by rw [hcl]; exact List.mem_filterMap.2 ⟨some c, List.mem_of_getElem? hc, rfl⟩
        have hks : ∀ d, d ∈ (arr.take k).filterMap id → d ∈ (ndk p).cl.kids := fun d hd => by
          rw [hcl]
          obtain ⟨y, hy, e⟩ := List.mem_filterMap.1 hd
          exact List.mem_filterMap.2 ⟨y, List.mem_of_mem_take hy, e⟩
        obtain ⟨hcN, hw, hpx, h10, hHN, hnp⟩ := HL.out.kid HH.out.hp hck
        have hlt : ∀ d, d ∈ (arr.take k).filterMap id → (ndk d).px < (ndk c).px := fun d hd => by
          obtain ⟨_, _, _, hdx⟩ := HL.out.A.T.I.kid p HH.out.hp d (hks d hd)
          obtain ⟨y, hy, e⟩ := List.mem_filterMap.1 hd
          obtain rfl : y = some d := e
          obtain ⟨i, hi⟩ := List.getElem?_of_mem hy
          rw [List.getElem?_take] at hi
          split at hi
          · rename_i hik
            have h1 : (ndk d).fb.toNat = mn + i := hplc i d hi
            have h2 : (ndk c).fb.toNat = mn + k := hplc k c hc
            exact px_lt hdx (List.length_pos_iff.1 hpx) (show (ndk d).fb.toNat < (ndk c).fb.toNat by omega)
          · cases hi
        clear hplc
        obtain ⟨s1, s2, s3⟩ := walk_srt HH.out HL.out hks hck hlt
        have hll : (wd c).length = (wd p).length + (ndk c).px.length := by rw [hw, List.length_append]
        have hcap := HL.out.pbw.2.1
        have hcap2 := HL.out.pbw.2.2.1
        have c2 : wr.cell? ⟨a, k, none⟩ = some (.pointer (some ⟨c, 0, none⟩)) := by rw [cell_of_block r5, List.getElem?_toArray, List.getElem?_map, hc]; rfl
        have c3 := HL.out.pbw.c0
        have f3 := free_of_block HL.out.pbw.1 0
        have c4 := hHN.sl hnp
        have hroom : (wd p).length + (ndk c).px.length ≤ cap := by omega
        have g1 : (k : Int) < (arr.length : Int) := by omega
        have HC := Lib.hid (⟨hc, hcl, hck, hks, hcN, hw, hpx, hHN, hnp⟩ : _ ∧ _ ∧ _ ∧ _ ∧ _ ∧ _ ∧ _ ∧ _ ∧ _)
        have HS := Lib.hid (⟨s1, s2, s3⟩ : _ ∧ _ ∧ _)
        have HKS := Lib.hid (hHN.ks hnp)
        have HBB : Hid (∃ (C : Array Value) (fr : Nat × Nat), wr.heap[bb]? = some (.cells C 5 fr) ∧ 0 + cap ≤ C.size ∧ (∀ i, i < C.size → wr.frozen? ⟨bb, i, none⟩ = false)) := by
          obtain ⟨_, _, _, C, b1, b2, _⟩ := HL.out.pbw
          show ∃ _, _
          exact ⟨C, _, b1, by omega, fun i _ => free_of_block b1 i⟩
        have HPB := Lib.hid HL.out.pbw.1
        have HNE := Lib.hid HL.out.pbw.ne
        have hcb : c ≠ bb := fun e => HX.out.obb (by rw [← e]; exact (HL.out.A.own c hcN).1)
        have HCO := Lib.hid hHN.obj
        clear hc hcl hck hks hcN hw hpx hHN hnp s1 s2 s3 hlt r1 r2 r3 r4 r5
        go_wp2_with fail
        go_region_law (refine step_append_bytes_in rfl (.tmp 25) (.tmp 29) rfl wr ⟨rfl, rfl, rfl, rfl⟩ bb 0 (wd p).length cap rfl (ndk c).sb (ndk c).so (ndk c).px.length (ndk c).sc rfl (ndk c).px rfl HKS.out HBB.out hroom ?_; intro w' hT hC; have q1 : w'.frozen? ⟨pb, 0, none⟩ = false := (by rw [frozen_same (hT.keep pb (lt_of_heap HPB.out) HNE.out)]; exact f3); have q2 : w'.cell? ⟨pb, 0, none⟩ = some (.slice (some ⟨bb, 0, none⟩) (wd p).length cap) := (by rw [cell_of_block ((hT.keep pb (lt_of_heap HPB.out) HNE.out).trans HPB.out)]; rfl); have HT := Lib.hid hT; have HCC := Lib.hid hC; clear hT hC)
        all_goals
          have h2 := walk_in HX.out HL.out HH.out.hp HC.out.2.2.1 HT.out HCC.out (W2 := w'.setCell ⟨pb, 0, none⟩ (.slice (some ⟨bb, 0, none⟩) ((wd p).length + (ndk c).px.length) cap)) rfl
          generalize w'.setCell ⟨pb, 0, none⟩ (.slice (some ⟨bb, 0, none⟩) ((wd p).length + (ndk c).px.length) cap) = W2 at h2 ⊢
          obtain ⟨A2, pb2, v2, T2⟩ := h2
          have hN2 := A2.T.H c HC.out.2.2.2.2.1
          have d1 := hN2.c1
          have d4 : W2.cell? ⟨c, 4, none⟩ = some (.iface (ndk c).cl.ty (.pointer (some ⟨(ndk c).cl.l, 0, none⟩))) := hN2.c4
          have d0 := hN2.sl HC.out.2.2.2.2.2.2.2.2
          have H2 := Lib.hid (⟨A2, pb2, v2, T2⟩ : _ ∧ _ ∧ _ ∧ _)
          have m1 := m_walk (ndk c).cl
          have m2 := f_walk (ndk c).cl
          clear A2 pb2 v2 T2 hN2 c2 c3 c4 f3 q1 q2
          cases hit : (ndk c).it with
          | none =>
            rw [hit] at d1
            simp only [itv] at d1
            have hM : M (wd c) = none := by rw [H2.out.1.C.at_ c HC.out.2.2.2.2.1, hit]
            have hvl : visL M (wd c) = [] := by unfold visL; rw [hM]; rfl
            have HM := Lib.hid (⟨hM, hvl⟩ : _ ∧ _)
            clear hit hM hvl
            go_wp2_with fail
            refine (HIH.out c (List.mem_filterMap.2 ⟨some c, List.mem_of_getElem? HC.out.1, rfl⟩) W2 ndk (acc ++ (L ++ visL M (wd c))) ⟨H2.out.1, HC.out.2.2.2.2.1, H2.out.2.1, by rw [HM.out.2, List.append_nil]; exact H2.out.2.2.1, HS.out.1, HS.out.2.1, HS.out.2.2, Nat.le_trans HH.out.bw H2.out.2.2.2.size⟩).mono ?_
            rintro e W3 ⟨rfl, nd3, sub, A3, P3, o3, pb3, v3, s3, m3, T3⟩
            have d0 := (by have h := A3.T.H c HC.out.2.2.2.2.1; exact h.sl (A3.T.np HC.out.2.2.2.2.1 (HL.out.A.T.I.kid p HH.out.hp c HC.out.2.2.1).2.1) : W3.cell? ⟨c, 0, none⟩ = _)
            have hpl : (nd3 c).px.length = (ndk c).px.length := by rw [(P3 c HC.out.2.2.2.2.1).2.2.2.2.1]
            rw [hpl] at d0
            have c3 := pb3.c0
            have f3 := free_of_block pb3.1 0
            have e1 : IntKind.i64.wrap (((wd c).length : Int) - ((ndk c).px.length : Int)) = ((wd p).length : Int) := by rw [IntWalk.i64_in _ (by omega)]; omega
            have g2 : (wd p).length ≤ cap := by omega
            have H3 := Lib.hid (⟨A3, P3, o3, pb3, v3, s3, m3, T3⟩ : _ ∧ _ ∧ _ ∧ _ ∧ _ ∧ _ ∧ _ ∧ _)
            clear A3 P3 o3 pb3 v3 s3 m3 T3 hpl d1 d4 m1 m2
            go_wp2_with fail
            go_region
            go_wp2_with fail
            go_roundw
            case rel =>
              refine ⟨k + 1, nd3, L ++ visL M (wd c) ++ sub, by go_num, by omega, (?_ : WLoop t mp rp M O N wd S sh pb bb cap base skip V nd nd p acc w ((arr.take (k + 1)).filterMap id) nd3 (L ++ visL M (wd c) ++ sub) _)⟩
              obtain ⟨A3, P3, o3, pb3, v3, s3, m3, T3⟩ := H3.out
              rw [take_fm_some HC.out.1]
              exact walk_backU HX.out HL.out HH.out.hp HC.out.2.2.2.1 HC.out.2.2.1 A3 P3 o3 pb3 v3 s3 (fun h => absurd HM.out.1 h) m3 H2.out.2.2.2 T3 rfl ⟨rfl, rfl, rfl⟩
            case measure => simp [intOf]; omega
          | some v =>
            rw [hit] at d1
            simp only [itv] at d1
            have hM : M (wd c) ≠ none := by rw [H2.out.1.C.at_ c HC.out.2.2.2.2.1, hit]; simp
            have hvl : visL M (wd c) = [wd c] := by unfold visL; rw [H2.out.1.C.at_ c HC.out.2.2.2.2.1, hit]; rfl
            have HM := Lib.hid (⟨hM, hvl⟩ : _ ∧ _)
            clear hit hM hvl
            have hacc := acc_len HX.out.fin HL.out.srt (fun u hu => HS.out.2.2 u (by rw [← List.append_assoc]; exact List.mem_append_left _ hu))
            have hTd : Tch W2 W2.drew (fun _ => False) := (Tch.refl W2 _).drw
            have AD := hTd.taw H2.out.1 (fun _ _ h => h)
            have pbD := H2.out.2.1.keep hTd (fun h => h) (fun h => h)
            have vD := HX.out.vis.keep _ _ _ H2.out.2.2.1 (hTd.mono (fun _ _ h => h.elim))
            have TD := H2.out.2.2.2.trans hTd (fun _ _ h => h.elim)
            have d1 : W2.drew.cell? ⟨c, 1, none⟩ = some (.iface 3 (.int .i64 v)) := d1
            obtain ⟨W, hW⟩ : ∃ W, W2.drew = W := ⟨_, rfl⟩
            rw [hW] at AD pbD vD TD d1
            have hcall := HX.out.vis.call (acc ++ L) W (wd c) bb 0 cap v vD pbD.ks (.inr (.inr rfl)) (by omega) (by omega) (fun k hk => HX.out.bad AD pbD k hk) (Nat.le_trans HH.out.bw TD.size)
            have c3 := pbD.c0
            rw [hll] at hcall
            have HCALL := Lib.hid hcall
            have HD := Lib.hid (⟨AD, pbD, vD, TD⟩ : _ ∧ _ ∧ _ ∧ _)
            have HWW := Lib.hid hW
            clear hcall AD pbD vD TD hTd hW
            go_wp2_with fail
            refine wp_region_tail 8 (by kernel_rfl) (by kernel_rfl) HWW.out ?_
            simp only [List.take_succ_cons, List.take_zero, List.drop_succ_cons, List.drop_zero]
            repeat still_step
            refine wpStill_nil ?_
            go_wp2_with fail
            refine HCALL.out.mono ?_
            rintro e W3 ⟨rfl, vV, TV⟩
            have AV := TV.taw HD.out.1 (fun k hk h => h.1 (.inl hk))
            have pbV := HD.out.2.1.keep TV (fun h => h.1 (.inr (.inl rfl))) (fun h => h.1 (.inr (.inr rfl)))
            have TV := HD.out.2.2.2.trans TV (fun _ _ h => h.2)
            have c3 := pbV.c0
            have f3 := free_of_block pbV.1 0
            have d0 := (AV.T.H c HC.out.2.2.2.2.1).sl HC.out.2.2.2.2.2.2.2.2
            have d4 : W3.cell? ⟨c, 4, none⟩ = some (.iface (ndk c).cl.ty (.pointer (some ⟨(ndk c).cl.l, 0, none⟩))) := (AV.T.H c HC.out.2.2.2.2.1).c4
            have vV : V (acc ++ (L ++ visL M (wd c))) W3 := by rw [HM.out.2, ← List.append_assoc]; exact vV
            have HV2 := Lib.hid (⟨AV, pbV, vV, TV⟩ : _ ∧ _ ∧ _ ∧ _)
            have hE := eq_skip
            have hN := ne_nil
            clear AV pbV TV vV
            cases hsk : skip (wd c) with
            | true =>
              simp only [errV, if_true, skipV]
              have HSK := Lib.hid hsk
              have e1 : IntKind.i64.wrap (((wd c).length : Int) - ((ndk c).px.length : Int)) = ((wd p).length : Int) := by rw [IntWalk.i64_in _ (by omega)]; omega
              have g2 : (wd p).length ≤ cap := by omega
              clear hsk
              go_wp2_with fail
              go_region
              go_wp2_with fail
              go_roundw
              case rel =>
                refine ⟨k + 1, ndk, L ++ visL M (wd c) ++ [], by go_num, by omega, (?_ : WLoop t mp rp M O N wd S sh pb bb cap base skip V nd nd p acc w ((arr.take (k + 1)).filterMap id) ndk (L ++ visL M (wd c) ++ []) _)⟩
                obtain ⟨A3, pb3, v3, T3⟩ := HV2.out
                rw [take_fm_some HC.out.1]
                exact walk_backS HX.out HL.out HH.out.hp HC.out.2.2.2.1 HC.out.2.2.1 A3 pb3 v3 HS.out.1 HM.out.1 HSK.out T3 rfl ⟨rfl, rfl, rfl⟩
              case measure => simp [intOf]; omega
            | false =>
              simp only [errV, Bool.false_eq_true, if_false]
              have HSK := Lib.hid hsk
              clear hsk
              go_wp2_with fail
              refine (HIH.out c (List.mem_filterMap.2 ⟨some c, List.mem_of_getElem? HC.out.1, rfl⟩) W3 ndk (acc ++ (L ++ visL M (wd c))) ⟨HV2.out.1, HC.out.2.2.2.2.1, HV2.out.2.1, HV2.out.2.2.1, HS.out.1, HS.out.2.1, HS.out.2.2, Nat.le_trans HH.out.bw HV2.out.2.2.2.size⟩).mono ?_
              rintro e W4 ⟨rfl, nd3, sub, A3, P3, o3, pb3, v3, s3, m3, T3⟩
              have d0 := (by have h := A3.T.H c HC.out.2.2.2.2.1; exact h.sl (A3.T.np HC.out.2.2.2.2.1 (HL.out.A.T.I.kid p HH.out.hp c HC.out.2.2.1).2.1) : W4.cell? ⟨c, 0, none⟩ = _)
              have hpl : (nd3 c).px.length = (ndk c).px.length := by rw [(P3 c HC.out.2.2.2.2.1).2.2.2.2.1]
              rw [hpl] at d0
              have c3 := pb3.c0
              have f3 := free_of_block pb3.1 0
              have e1 : IntKind.i64.wrap (((wd c).length : Int) - ((ndk c).px.length : Int)) = ((wd p).length : Int) := by rw [IntWalk.i64_in _ (by omega)]; omega
              have g2 : (wd p).length ≤ cap := by omega
              have H3 := Lib.hid (⟨A3, P3, o3, pb3, v3, s3, m3, T3⟩ : _ ∧ _ ∧ _ ∧ _ ∧ _ ∧ _ ∧ _ ∧ _)
              clear A3 P3 o3 pb3 v3 s3 m3 T3 hpl d4 m1 m2
              go_wp2_with fail
              go_region
              go_wp2_with fail
              go_roundw
              case rel =>
                refine ⟨k + 1, nd3, L ++ visL M (wd c) ++ sub, by go_num, by omega, (?_ : WLoop t mp rp M O N wd S sh pb bb cap base skip V nd nd p acc w ((arr.take (k + 1)).filterMap id) nd3 (L ++ visL M (wd c) ++ sub) _)⟩
                obtain ⟨A3, P3, o3, pb3, v3, s3, m3, T3⟩ := H3.out
                rw [take_fm_some HC.out.1]
                exact walk_backU HX.out HL.out HH.out.hp HC.out.2.2.2.1 HC.out.2.2.1 A3 P3 o3 pb3 v3 s3 (fun _ => HSK.out) m3 HV2.out.2.2.2 T3 rfl ⟨rfl, rfl, rfl⟩
              case measure => simp [intOf]; omega
    · have hkk : k = arr.length := by omega
      subst hkk
      have g1 : ¬ (arr.length : Int) < (arr.length : Int) := by omega
      go_wp2_with fail
      go_ret
      refine HL.out.post HH.out.hp (fun c hc => ?_)
      rw [HL.out.at_, HCL.out] at hc
      rw [List.take_length]
      exact hc
end

end Go.Proofs.Ytmdbnjepajifpaa

/- (*Trie).walk: the word's bytes are copied into a block of its own, the root is visited, then all that lies beneath it. -/
namespace Go.Proofs.Ytmdbnjepajifpaa
open Go.RowKit Go.Proofs.YtmdbnjepajifpaaW.PrintWords Go.Proofs.YtmdbnjepajifpaaW.PrintLast Go.Proofs.YtmdbnjepajifpaaW.PrintMore

section
variable {t : Nat} {mp : Int} {rp : Wd} {M : Wd → Option Int} {O : Nat → Prop} {N : Nat → Prop} {wd : Nat → List UInt8} {S : Nat → List UInt8} {sh : Nat → Nat} {pb bb cap base F : Nat} {binds : Array Value} {skip : Wd → Bool} {V : List Wd → World → Prop}

/-- A walk over whatever lies beneath any node. -/
theorem walk_all (X : WFix t M O pb bb cap base F binds skip V) : ∀ (n p : Nat), 10 - (wd p).length < n → WalkIH t mp rp M O N wd S sh pb bb cap base F binds skip V p
  | 0, _, h => absurd h (Nat.not_lt_zero _)
  | n + 1, p, h => fun w2 nd2 acc2 H => by
    have hk : ∀ c, c ∈ (nd2 p).cl.kids → WalkIH t mp rp M O N wd S sh pb bb cap base F binds skip V c := fun c hc => by
      have h1 := H.A.T.I.kid_longer H.hp hc
      have h2 := H.A.T.I.len c (H.A.T.I.kid p H.hp c hc).1
      exact walk_all X n c (by omega)
    cases hcl : (nd2 p).cl with
    | sp l a cp ks => rw [hcl] at hk; exact sp_walk X H hcl hk
    | dn l a mn hi arr => rw [hcl] at hk; exact dn_walk X H hcl hk
end

theorem mk_bytes (n : Nat) (E : Int) (hE : E = n) (h : n ≤ 1000) (W : World) :
    (Instr.makeSlice 53 (.int .i64 E) (.int .i64 E)).run Try.prog W = .ok (.slice (some ⟨W.heap.size, 0, none⟩) n n) (W.alloc (.cells (madeCells (Value.int .u8 0).cells n) 5)) := by
  obtain ⟨i0, hi, hz0, hz1, hz2⟩ := info_parts infoByte
  subst hE
  rw [run_make (P := Try.prog) W 53 5 i0 (.int .u8 0) Try.underlying53 hi hz0 .i64 .i64 n n (by omega) (Int.le_refl _) (by rw [hz2]; omega) (by omega)]
  simp only [Int.toNat_natCast, hz1, Nat.mul_one]

theorem copy_run (ty : TypeId) (W w0 : World) (hsame : W.heap = w0.heap ∧ W.os = w0.os ∧ W.tape = w0.tape ∧ W.output = w0.output) (b n cap xb xo xc : Nat) (u : List UInt8) (hmn : u.length ≤ n) (hu : KS w0 xb xo u)
    (hblk : ∃ C, w0.heap[b]? = some (.cells C 5 (0, 0)) ∧ n ≤ C.size) :
    ∃ w', (Builtin.copy_ #[53, 53] ty #[.slice (some ⟨b, 0, none⟩) n cap, .slice (some ⟨xb, xo, none⟩) u.length xc]).run Try.prog W = .ok (goInt u.length) w' ∧ Tch w0 w' (fun k => k = b) ∧
      ∃ C', w'.heap[b]? = some (.cells C' 5 (0, 0)) ∧ n ≤ C'.size ∧ ∀ i, i < u.length → C'[i]? = some (.int .u8 ((u.getD i 0).toNat : Int)) := by
  obtain ⟨i0, hi, hz0, hz1, hz2⟩ := info_parts infoByte
  obtain ⟨s1, s2, s3, s4⟩ := hsame
  obtain ⟨C, hC, hn⟩ := hblk
  have cW : ∀ p, W.cell? p = w0.cell? p := fun p => by simp [World.cell?, s1]
  have fW : ∀ p, W.frozen? p = w0.frozen? p := fun p => by simp [World.frozen?, s1]
  have hr := run_copy_cells (P := Try.prog) W 53 53 ty 5 b 0 n cap ⟨xb, xo, none⟩ u.length xc (bytesV u) Try.underlying53 (by rw [hi]; simp [hz1]) (by rw [bytesV_len]; exact (Nat.min_eq_left hmn).symm)
    (fun j v hj => by
      obtain ⟨hlt, rfl⟩ := bytesV_get _ _ _ hj
      rw [Addr.add_lit, cW]
      exact hu j hlt)
    (fun j hj => by rw [bytesV_len] at hj; rw [cW, cell_of_block hC, Array.getElem?_eq_getElem (by omega)]; rfl) (fun j _ => by rw [fW]; exact free_of_block hC _) (bytesV_one _)
  rw [bytesV_len] at hr
  obtain ⟨m1, m2, m3, m4⟩ := setCells_meta b (bytesV u) 0 W
  obtain ⟨C', h1, h2, h3, h4⟩ := setCells_heap b 5 (0, 0) (bytesV u) 0 W C (by rw [s1]; exact hC)
  refine ⟨_, hr, ⟨m1.trans s2, m2.trans s3, m3.trans s4, by rw [m4, s1]; exact Nat.le_refl _, fun k _ hk => by rw [setCells_heap_ne b _ _ _ k hk, s1]⟩, C', h1, by omega, fun i hi => ?_⟩
  have := h4 i _ (by omega) (bytesV_at _ _ hi)
  rw [Nat.zero_add] at this
  exact this

set_option maxRecDepth 100000 in
theorem step_copy_bytes {ops : Array Oper} {o : Oper} {a : Act} {W : World} {K : Act → World → Prop} {Q : Exit → Act → World → Prop} {E : Prop} (hg : o.guard = none) (s x : Operand)
    (hop : o.op = Op.call { callee := Callee.builtin Builtin.copy, args := #[s, x], argTypes := #[53, 53] }) (w0 : World) (hsame : W.heap = w0.heap ∧ W.os = w0.os ∧ W.tape = w0.tape ∧ W.output = w0.output)
    (b n cap : Nat) (hs : a.eval s = .slice (some ⟨b, 0, none⟩) n cap) (xb xo m xc : Nat) (hx : a.eval x = .slice (some ⟨xb, xo, none⟩) m xc) (u : List UInt8) (hm : u.length = m) (hmn : u.length ≤ n) (hu : KS w0 xb xo u)
    (hblk : ∃ C, w0.heap[b]? = some (.cells C 5 (0, 0)) ∧ n ≤ C.size)
    (hK : ∀ w', Tch w0 w' (fun k => k = b) → (∃ C', w'.heap[b]? = some (.cells C' 5 (0, 0)) ∧ n ≤ C'.size ∧ ∀ i, i < u.length → C'[i]? = some (.int .u8 ((u.getD i 0).toNat : Int))) → K (a.put o.dst (goInt m)) w') :
    if Region.wanted o (yielded ops a.tmps) = true then Oper.wp Try.prog o a W K Q else E := by
  subst hm
  obtain ⟨w', hr, hT, hC⟩ := copy_run o.type W w0 hsame b n cap xb xo xc u hmn hu hblk
  have hw : Region.wanted o (yielded ops a.tmps) = true := by simp [Region.wanted, hg]
  rw [if_pos hw]
  unfold Oper.wp
  simp [execOp, hop, resolve, invoke, builtin, hs, hx, hr, Result.andThen]
  exact hK w' hT hC

end Go.Proofs.Ytmdbnjepajifpaa
