/- Tries in memory, part C7. Lemmas; no statement of their own. -/
import Derived.Test.YtmdbnjepajifpaaC6
import Derived.RegionTactic
import Derived.Deep.RegionLaw
import Derived.Laws.IdiomCopy

/- (*sparseChildList).walk. -/
set_option linter.unusedVariables false
set_option linter.unusedSimpArgs false
namespace Go.Proofs.Ytmdbnjepajifpaa
open Go.RowKit Go.Proofs.YtmdbnjepajifpaaW.PrintWords Go.Proofs.YtmdbnjepajifpaaW.PrintLast Go.Proofs.YtmdbnjepajifpaaW.PrintMore

section
variable {t : Nat} {mp : Int} {rp : Wd} {M : Wd → Option Int} {O : Nat → Prop} {N : Nat → Prop} {wd : Nat → List UInt8} {S : Nat → List UInt8} {sh : Nat → Nat} {pb bb cap base F : Nat} {binds : Array Value} {skip : Wd → Bool} {V : List Wd → World → Prop} {nd nd1 ndk : Nat → Nd} {p c l a cp : Nat} {acc L : List Wd} {w wr : World} {ks : List Nat}

/-- Order and keys where the next child has been visited, or has no item. -/
theorem walk_srt (H : WPre t mp rp M O N wd S sh pb bb cap base V nd p acc w) (h : WLoop t mp rp M O N wd S sh pb bb cap base skip V nd nd1 p acc w ks ndk L wr) (hks : ∀ d, d ∈ ks → d ∈ (ndk p).cl.kids) (hc : c ∈ (ndk p).cl.kids) (hlt : ∀ d, d ∈ ks → (ndk d).px < (ndk c).px) :
    Srt (acc ++ (L ++ visL M (wd c))) ∧ Bef (acc ++ (L ++ visL M (wd c))) (wd c) ∧ ∀ u, u ∈ acc ++ (L ++ visL M (wd c)) → M u ≠ none := by
  have hb := bef_kid h.A.T.I H.hp hks hc hlt H.bef h.mem
  have hs : ∀ x, x ∈ acc ++ L → x < wd c := fun x hx => hb x hx _ (List.prefix_refl _)
  have hm : ∀ u, u ∈ acc ++ L → M u ≠ none := fun u hu => by
    rw [List.mem_append] at hu
    rcases hu with hu | hu
    · exact H.mem u hu
    · exact ((h.mem u).1 hu).1.1
  rw [← List.append_assoc]
  unfold visL
  cases hM : M (wd c) with
  | none =>
    simp only [Option.isSome_none, Bool.false_eq_true, if_false, List.append_nil]
    exact ⟨h.srt, bef_of hb, hm⟩
  | some x =>
    simp only [Option.isSome_some, if_true]
    refine ⟨srt_snoc h.srt hs, bef_snoc hb, fun u hu => ?_⟩
    rw [List.mem_append, List.mem_singleton] at hu
    rcases hu with hu | hu
    · exact hm u hu
    · rw [hu, hM]; simp

theorem take_snoc {α : Type} {l : List α} {k : Nat} {x : α} (h : l[k]? = some x) : l.take (k + 1) = l.take k ++ [x] := by
  rw [List.take_add_one, h]; rfl

theorem pairwise_get {α : Type} {R : α → α → Prop} {l : List α} (h : l.Pairwise R) {i j : Nat} {x y : α} (hij : i < j) (hx : l[i]? = some x) (hy : l[j]? = some y) : R x y := by
  obtain ⟨h1, e1⟩ := List.getElem?_eq_some_iff.1 hx
  obtain ⟨h2, e2⟩ := List.getElem?_eq_some_iff.1 hy
  rw [← e1, ← e2]
  exact List.pairwise_iff_getElem.1 h i j h1 h2 hij

/-- Behind the walk over what lies beneath a child. -/
theorem walk_backU (X : WFix t M O pb bb cap base F binds skip V) (h : WLoop t mp rp M O N wd S sh pb bb cap base skip V nd nd1 p acc w ks ndk L wr) (hp : N p) (hks : ∀ d, d ∈ ks → d ∈ (ndk p).cl.kids) (hc : c ∈ (ndk p).cl.kids) {W2 W3 W4 : World} {nd3 : Nat → Nd} {sub : List Wd}
    (A3 : TA W3 t mp rp M O N nd3 wd S sh) (P3 : NdP N ndk nd3) (o3 : ∀ x, N x → ¬ wd c <+: wd x → nd3 x = ndk x) (pb3 : PB W3 pb bb cap (wd c)) (v3 : V (acc ++ (L ++ visL M (wd c)) ++ sub) W3) (s3 : Srt (acc ++ (L ++ visL M (wd c)) ++ sub))
    (hsk : M (wd c) ≠ none → skip (wd c) = false) (hsub : ∀ u, u ∈ sub ↔ Und M skip (wd c) u) (T2 : Tch w W2 (fun k => base ≤ k)) (T3 : Tch W2 W3 (fun k => base ≤ k))
    (h4 : W4.heap = (W3.setCell ⟨pb, 0, none⟩ (.slice (some ⟨bb, 0, none⟩) (wd p).length cap)).heap) (hm : W4.os = W3.os ∧ W4.tape = W3.tape ∧ W4.output = W3.output) :
    WLoop t mp rp M O N wd S sh pb bb cap base skip V nd nd1 p acc w (ks ++ [c]) nd3 (L ++ visL M (wd c) ++ sub) W4 := by
  rw [List.append_assoc] at v3 s3
  exact walk_back X h hp hks hc A3 P3 o3 pb3 v3 s3 (fun u => ⟨fun hu => ⟨hsk, (hsub u).1 hu⟩, fun hu => (hsub u).2 hu.2⟩) (T2.trans T3 (fun _ _ h => h)) h4 hm

/-- Behind a child that is skipped. -/
theorem walk_backS (X : WFix t M O pb bb cap base F binds skip V) (h : WLoop t mp rp M O N wd S sh pb bb cap base skip V nd nd1 p acc w ks ndk L wr) (hp : N p) (hks : ∀ d, d ∈ ks → d ∈ (ndk p).cl.kids) (hc : c ∈ (ndk p).cl.kids) {W3 W4 : World}
    (A3 : TA W3 t mp rp M O N ndk wd S sh) (pb3 : PB W3 pb bb cap (wd c)) (v3 : V (acc ++ (L ++ visL M (wd c))) W3) (s3 : Srt (acc ++ (L ++ visL M (wd c))))
    (hM : M (wd c) ≠ none) (hsk : skip (wd c) = true) (T3 : Tch w W3 (fun k => base ≤ k))
    (h4 : W4.heap = (W3.setCell ⟨pb, 0, none⟩ (.slice (some ⟨bb, 0, none⟩) (wd p).length cap)).heap) (hm : W4.os = W3.os ∧ W4.tape = W3.tape ∧ W4.output = W3.output) :
    WLoop t mp rp M O N wd S sh pb bb cap base skip V nd nd1 p acc w (ks ++ [c]) ndk (L ++ visL M (wd c) ++ []) W4 := by
  refine walk_back X h hp hks hc A3 (NdP.refl _ _) (fun _ _ _ => rfl) pb3 (by rw [List.append_nil]; exact v3) (by rw [List.append_nil]; exact s3) (fun u => ⟨fun hu => (by cases hu), fun hu => ?_⟩) T3 h4 hm
  have := hu.1 hM
  rw [hsk] at this
  cases this

/-- What sort.Sort needs. -/
theorem walk_sort (H : WPre t mp rp M O N wd S sh pb bb cap base V nd p acc w) (hcl : (nd p).cl = .sp l a cp ks) :
    Calls Try.prog 123 #[.iface 103 (.slice (some ⟨a, 0, none⟩) ks.length cp)] w (SortP w a cp (fun c => (nd c).px) ks) := by
  have hraw := (H.A.T.H p H.hp).raw
  have hk := H.A.T.I.nodup p H.hp
  have hkid := H.A.T.I.kid p H.hp
  have hne := H.A.T.I.ne p H.hp
  have ha : (nd p).cl.a = a := by rw [hcl]; rfl
  rw [hcl] at hraw hk hkid hne
  obtain ⟨r1, r2, r3, C, r4, r5, r6⟩ := hraw
  refine sort_any w a cp (fun c => (nd c).px) ks ⟨Tch.refl _ _, r2, C, r4, r5, r6⟩ (by omega) (fun W hT c hc => ?_) (fun c d hc hd e => hne c d hc hd (by unfold Nd.fb; rw [show (nd c).px = (nd d).px from e])) hk
  obtain ⟨h1, h2, h3, h4⟩ := hkid c hc
  have hN := H.A.T.H c h1
  have hnp := H.A.T.np h1
  have hl := H.A.T.pxl h1
  refine PxAt.later (w0 := w) ⟨(nd c).sb, (nd c).so, (nd c).sc, hN.sl hnp, hN.ks hnp, by show (nd c).px.length ≤ 1000; omega, List.length_pos_iff.2 h4⟩ hT (by rw [← ha]; exact (H.A.T.a_ne H.hp h1).symm) (fun sb so n cp2 e => ?_)
  rw [hN.sl hnp] at e
  injection e with e
  injection e with e _ _
  injection e with e
  injection e with e _ _
  rw [← e, ← ha]
  exact H.A.T.sa_ne h1 H.hp

set_option maxRecDepth 100000 in
set_option maxHeartbeats 6400000 in
theorem sp_walk (X : WFix t M O pb bb cap base F binds skip V) (H : WPre t mp rp M O N wd S sh pb bb cap base V nd p acc w) (hcl : (nd p).cl = .sp l a cp ks) (IH : ∀ c, c ∈ ks → WalkIH t mp rp M O N wd S sh pb bb cap base F binds skip V c) :
    Calls Try.prog 120 #[.pointer (some ⟨l, 0, none⟩), .pointer (some ⟨pb, 0, none⟩), .func (.func F) #[] binds] w (WPost t mp rp M O N wd S sh pb bb cap base skip V nd p acc w) := by
  have HSORT := Lib.hid (walk_sort H hcl)
  have hraw := (H.A.T.H p H.hp).raw
  rw [hcl] at hraw
  obtain ⟨r1, r2, r3, _⟩ := hraw
  have c0 : w.cell? ⟨l, 0, none⟩ = some (.slice (some ⟨a, 0, none⟩) ks.length cp) := by rw [cell_of_block r1]; rfl
  have hen := X.vis.enter
  have HX := Lib.hid X
  have HH := Lib.hid H
  have HCL := Lib.hid hcl
  have HIH := Lib.hid IH
  clear X H hcl IH r1
  go_enter Try.func120, Try.ntmps120
  go_wp2_with fail
  refine HSORT.out.mono ?_
  intro e w1 hS
  obtain ⟨he, ks', hperm, hns, hW, hcl'⟩ := walk_start HX.out HH.out HCL.out hS
  subst he
  have hraw := (hW.A.T.H p HH.out.hp).raw
  rw [hcl'] at hraw
  obtain ⟨r1, _⟩ := hraw
  have hlen : ks'.length ≤ 12 := by rw [hperm.length_eq]; omega
  have c1 : w1.cell? ⟨l, 0, none⟩ = some (.slice (some ⟨a, 0, none⟩) ks'.length cp) := by rw [cell_of_block r1]; rfl
  obtain ⟨nd1, hnd1⟩ : ∃ nd1, upd nd p { nd p with cl := .sp l a cp ks' } = nd1 := ⟨_, rfl⟩
  rw [hnd1] at hW hcl'
  have HND := Lib.hid hnd1
  have HW := Lib.hid hW
  have HCLS := Lib.hid hcl'
  have HNS := Lib.hid hns
  have HPERM := Lib.hid hperm
  clear hW hcl' hns hperm hS HSORT c0 r1 r2 r3 hnd1
  go_wp2_with fail
  go_loopw [22] (fun i wr => ∃ (k : Nat) (ndk : Nat → Nd) (L : List Wd), i = .int .i64 (k : Int) ∧ k ≤ ks'.length ∧ Hid (WLoop t mp rp M O N wd S sh pb bb cap base skip V nd nd1 p acc w (ks'.take k) ndk L wr)) (fun i _ => ks'.length - (intOf i).toNat)
  case atStart => exact ⟨0, nd1, [], rfl, Nat.zero_le _, HW.out⟩
  case round =>
    obtain ⟨k, ndk, L, rfl, hkl, HL⟩ := hrel
    by_cases hk : k < ks'.length
    · obtain ⟨c, hc⟩ : ∃ c, ks'[k]? = some c := ⟨_, List.getElem?_eq_getElem hk⟩
      have hcl := HCLS.out
      rw [← HL.out.at_] at hcl
      have hraw := (HL.out.A.T.H p HH.out.hp).raw
      rw [hcl] at hraw
      obtain ⟨r1, _, _, C, r4, r5, r6⟩ := hraw
      have hck : c ∈ (ndk p).cl.kids := by rw [hcl]; exact List.mem_of_getElem? hc
      have hks : ∀ d, d ∈ ks'.take k → d ∈ (ndk p).cl.kids := fun d hd => by rw [hcl]; exact List.mem_of_mem_take hd
      obtain ⟨hcN, hw, hpx, h10, hHN, hnp⟩ := HL.out.kid HH.out.hp hck
      have hlt : ∀ d, d ∈ ks'.take k → (ndk d).px < (ndk c).px := fun d hd => by
        obtain ⟨h1, _⟩ := HL.out.A.T.I.kid p HH.out.hp d (hks d hd)
        rw [(HL.out.P d h1).2.2.2.2.1, (HL.out.P c hcN).2.2.2.2.1]
        obtain ⟨i, hi⟩ := List.getElem?_of_mem hd
        rw [List.getElem?_take] at hi
        split at hi
        · rename_i hik
          exact pairwise_get HNS.out hik hi hc
        · cases hi
      obtain ⟨s1, s2, s3⟩ := walk_srt HH.out HL.out hks hck hlt
      have hll : (wd c).length = (wd p).length + (ndk c).px.length := by rw [hw, List.length_append]
      have hcap := HL.out.pbw.2.1
      have hcap2 := HL.out.pbw.2.2.1
      have c2 : wr.cell? ⟨a, k, none⟩ = some (.pointer (some ⟨c, 0, none⟩)) := by rw [cell_of_block r4]; exact r6 k c hc
      have c3 := HL.out.pbw.c0
      have f3 := free_of_block HL.out.pbw.1 0
      have c4 := hHN.sl hnp
      have hroom : (wd p).length + (ndk c).px.length ≤ cap := by omega
      have g1 : (k : Int) < (ks'.length : Int) := by omega
      have HC := Lib.hid (⟨hc, hcl, hck, hks, hcN, hw, hpx, hHN, hnp⟩ : _ ∧ _ ∧ _ ∧ _ ∧ _ ∧ _ ∧ _ ∧ _ ∧ _)
      have HS := Lib.hid (⟨s1, s2, s3⟩ : _ ∧ _ ∧ _)
      have HKS := Lib.hid (hHN.ks hnp)
      have HBB : Hid (∃ (C : Array Value) (fr : Nat × Nat), wr.heap[bb]? = some (.cells C 5 fr) ∧ 0 + cap ≤ C.size ∧ (∀ i, i < C.size → wr.frozen? ⟨bb, i, none⟩ = false)) := by
        obtain ⟨_, _, _, C, b1, b2, _⟩ := HL.out.pbw
        show ∃ _, _
        exact ⟨C, _, b1, by omega, fun i _ => free_of_block b1 i⟩
      have HPB := Lib.hid HL.out.pbw.1
      have HNE := Lib.hid HL.out.pbw.ne
      have hcb : c ≠ bb := fun e => HX.out.obb (by rw [← e]; exact (HL.out.A.own c hcN).1)
      have HCO := Lib.hid hHN.obj
      clear hc hcl hck hks hcN hw hpx hHN hnp s1 s2 s3 hlt r1 r4 r5 r6 C
      go_wp2_with fail
      go_region_law (refine step_append_bytes_in rfl (.tmp 29) (.tmp 33) rfl wr ⟨rfl, rfl, rfl, rfl⟩ bb 0 (wd p).length cap rfl (ndk c).sb (ndk c).so (ndk c).px.length (ndk c).sc rfl (ndk c).px rfl HKS.out HBB.out hroom ?_; intro w' hT hC; have q1 : w'.frozen? ⟨pb, 0, none⟩ = false := (by rw [frozen_same (hT.keep pb (lt_of_heap HPB.out) HNE.out)]; exact f3); have q2 : w'.cell? ⟨pb, 0, none⟩ = some (.slice (some ⟨bb, 0, none⟩) (wd p).length cap) := (by rw [cell_of_block ((hT.keep pb (lt_of_heap HPB.out) HNE.out).trans HPB.out)]; rfl); have HT := Lib.hid hT; have HCC := Lib.hid hC; clear hT hC)
      all_goals
        have h2 := walk_in HX.out HL.out HH.out.hp HC.out.2.2.1 HT.out HCC.out (W2 := w'.setCell ⟨pb, 0, none⟩ (.slice (some ⟨bb, 0, none⟩) ((wd p).length + (ndk c).px.length) cap)) rfl
        generalize w'.setCell ⟨pb, 0, none⟩ (.slice (some ⟨bb, 0, none⟩) ((wd p).length + (ndk c).px.length) cap) = W2 at h2 ⊢
        obtain ⟨A2, pb2, v2, T2⟩ := h2
        have hN2 := A2.T.H c HC.out.2.2.2.2.1
        have d1 := hN2.c1
        have d4 : W2.cell? ⟨c, 4, none⟩ = some (.iface (ndk c).cl.ty (.pointer (some ⟨(ndk c).cl.l, 0, none⟩))) := hN2.c4
        have d0 := hN2.sl HC.out.2.2.2.2.2.2.2.2
        have H2 := Lib.hid (⟨A2, pb2, v2, T2⟩ : _ ∧ _ ∧ _ ∧ _)
        have m1 := m_walk (ndk c).cl
        have m2 := f_walk (ndk c).cl
        clear A2 pb2 v2 T2 hN2 c1 c2 c3 c4 f3 q1 q2
        cases hit : (ndk c).it with
        | none =>
          rw [hit] at d1
          simp only [itv] at d1
          have hM : M (wd c) = none := by rw [H2.out.1.C.at_ c HC.out.2.2.2.2.1, hit]
          have hvl : visL M (wd c) = [] := by unfold visL; rw [hM]; rfl
          have HM := Lib.hid (⟨hM, hvl⟩ : _ ∧ _)
          clear hit hM hvl
          go_wp2_with fail
          refine (HIH.out c (by have h := HC.out.1; exact List.mem_of_getElem? h |> HPERM.out.mem_iff.1) W2 ndk (acc ++ (L ++ visL M (wd c))) ⟨H2.out.1, HC.out.2.2.2.2.1, H2.out.2.1, by rw [HM.out.2, List.append_nil]; exact H2.out.2.2.1, HS.out.1, HS.out.2.1, HS.out.2.2, Nat.le_trans HH.out.bw H2.out.2.2.2.size⟩).mono ?_
          rintro e W3 ⟨rfl, nd3, sub, A3, P3, o3, pb3, v3, s3, m3, T3⟩
          have d0 := (by have h := A3.T.H c HC.out.2.2.2.2.1; exact h.sl (A3.T.np HC.out.2.2.2.2.1) : W3.cell? ⟨c, 0, none⟩ = _)
          have hpl : (nd3 c).px.length = (ndk c).px.length := by rw [(P3 c HC.out.2.2.2.2.1).2.2.2.2.1]
          rw [hpl] at d0
          have c3 := pb3.c0
          have f3 := free_of_block pb3.1 0
          have e1 : IntKind.i64.wrap (((wd c).length : Int) - ((ndk c).px.length : Int)) = ((wd p).length : Int) := by rw [IntWalk.i64_in _ (by omega)]; omega
          have g2 : (wd p).length ≤ cap := by omega
          have H3 := Lib.hid (⟨A3, P3, o3, pb3, v3, s3, m3, T3⟩ : _ ∧ _ ∧ _ ∧ _ ∧ _ ∧ _ ∧ _ ∧ _)
          clear A3 P3 o3 pb3 v3 s3 m3 T3 hpl d1 d4 m1 m2
          go_wp2_with fail
          go_region
          go_wp2_with fail
          go_roundw
          case rel =>
            refine ⟨k + 1, nd3, L ++ visL M (wd c) ++ sub, by go_num, by omega, (?_ : WLoop t mp rp M O N wd S sh pb bb cap base skip V nd nd1 p acc w (ks'.take (k + 1)) nd3 (L ++ visL M (wd c) ++ sub) _)⟩
            obtain ⟨A3, P3, o3, pb3, v3, s3, m3, T3⟩ := H3.out
            rw [take_snoc HC.out.1]
            exact walk_backU HX.out HL.out HH.out.hp HC.out.2.2.2.1 HC.out.2.2.1 A3 P3 o3 pb3 v3 s3 (fun h => absurd HM.out.1 h) m3 H2.out.2.2.2 T3 rfl ⟨rfl, rfl, rfl⟩
          case measure => simp [intOf]; omega
        | some v =>
          rw [hit] at d1
          simp only [itv] at d1
          have hM : M (wd c) ≠ none := by rw [H2.out.1.C.at_ c HC.out.2.2.2.2.1, hit]; simp
          have hvl : visL M (wd c) = [wd c] := by unfold visL; rw [H2.out.1.C.at_ c HC.out.2.2.2.2.1, hit]; rfl
          have HM := Lib.hid (⟨hM, hvl⟩ : _ ∧ _)
          clear hit hM hvl
          have hacc := acc_len HX.out.fin HL.out.srt (fun u hu => HS.out.2.2 u (by rw [← List.append_assoc]; exact List.mem_append_left _ hu))
          have hTd : Tch W2 W2.drew (fun _ => False) := (Tch.refl W2 _).drw
          have AD := hTd.ta H2.out.1 (fun _ _ h => h)
          have pbD := H2.out.2.1.keep hTd (fun h => h) (fun h => h)
          have vD := HX.out.vis.keep _ _ _ H2.out.2.2.1 (hTd.mono (fun _ _ h => h.elim))
          have TD := H2.out.2.2.2.trans hTd (fun _ _ h => h.elim)
          have d1 : W2.drew.cell? ⟨c, 1, none⟩ = some (.iface 3 (.int .i64 v)) := d1
          obtain ⟨W, hW⟩ : ∃ W, W2.drew = W := ⟨_, rfl⟩
          rw [hW] at AD pbD vD TD d1
          have hcall := HX.out.vis.call (acc ++ L) W (wd c) bb 0 cap v vD pbD.ks (.inr (.inr rfl)) (by omega) (by omega) (fun k hk => HX.out.bad AD pbD k hk) (Nat.le_trans HH.out.bw TD.size)
          have c3 := pbD.c0
          rw [hll] at hcall
          have HCALL := Lib.hid hcall
          have HD := Lib.hid (⟨AD, pbD, vD, TD⟩ : _ ∧ _ ∧ _ ∧ _)
          have HWW := Lib.hid hW
          clear hcall AD pbD vD TD hTd hW
          go_wp2_with fail
          refine wp_region_tail 8 (by kernel_rfl) (by kernel_rfl) HWW.out ?_
          simp only [List.take_succ_cons, List.take_zero, List.drop_succ_cons, List.drop_zero]
          repeat still_step
          refine wpStill_nil ?_
          go_wp2_with fail
          refine HCALL.out.mono ?_
          rintro e W3 ⟨rfl, vV, TV⟩
          have AV := TV.ta HD.out.1 (fun k hk h => h.1 (.inl hk))
          have pbV := HD.out.2.1.keep TV (fun h => h.1 (.inr (.inl rfl))) (fun h => h.1 (.inr (.inr rfl)))
          have TV := HD.out.2.2.2.trans TV (fun _ _ h => h.2)
          have c3 := pbV.c0
          have f3 := free_of_block pbV.1 0
          have d0 := (AV.T.H c HC.out.2.2.2.2.1).sl HC.out.2.2.2.2.2.2.2.2
          have d4 : W3.cell? ⟨c, 4, none⟩ = some (.iface (ndk c).cl.ty (.pointer (some ⟨(ndk c).cl.l, 0, none⟩))) := (AV.T.H c HC.out.2.2.2.2.1).c4
          have vV : V (acc ++ (L ++ visL M (wd c))) W3 := by rw [HM.out.2, ← List.append_assoc]; exact vV
          have HV2 := Lib.hid (⟨AV, pbV, vV, TV⟩ : _ ∧ _ ∧ _ ∧ _)
          have hE := eq_skip
          have hN := ne_nil
          clear AV pbV TV vV
          cases hsk : skip (wd c) with
          | true =>
            simp only [errV, if_true, skipV]
            have HSK := Lib.hid hsk
            have e1 : IntKind.i64.wrap (((wd c).length : Int) - ((ndk c).px.length : Int)) = ((wd p).length : Int) := by rw [IntWalk.i64_in _ (by omega)]; omega
            have g2 : (wd p).length ≤ cap := by omega
            clear hsk
            go_wp2_with fail
            go_region
            go_wp2_with fail
            go_roundw
            case rel =>
              refine ⟨k + 1, ndk, L ++ visL M (wd c) ++ [], by go_num, by omega, (?_ : WLoop t mp rp M O N wd S sh pb bb cap base skip V nd nd1 p acc w (ks'.take (k + 1)) ndk (L ++ visL M (wd c) ++ []) _)⟩
              obtain ⟨A3, pb3, v3, T3⟩ := HV2.out
              rw [take_snoc HC.out.1]
              exact walk_backS HX.out HL.out HH.out.hp HC.out.2.2.2.1 HC.out.2.2.1 A3 pb3 v3 HS.out.1 HM.out.1 HSK.out T3 rfl ⟨rfl, rfl, rfl⟩
            case measure => simp [intOf]; omega
          | false =>
            simp only [errV, Bool.false_eq_true, if_false]
            have HSK := Lib.hid hsk
            clear hsk
            go_wp2_with fail
            refine (HIH.out c (by have h := HC.out.1; exact List.mem_of_getElem? h |> HPERM.out.mem_iff.1) W3 ndk (acc ++ (L ++ visL M (wd c))) ⟨HV2.out.1, HC.out.2.2.2.2.1, HV2.out.2.1, HV2.out.2.2.1, HS.out.1, HS.out.2.1, HS.out.2.2, Nat.le_trans HH.out.bw HV2.out.2.2.2.size⟩).mono ?_
            rintro e W4 ⟨rfl, nd3, sub, A3, P3, o3, pb3, v3, s3, m3, T3⟩
            have d0 := (by have h := A3.T.H c HC.out.2.2.2.2.1; exact h.sl (A3.T.np HC.out.2.2.2.2.1) : W4.cell? ⟨c, 0, none⟩ = _)
            have hpl : (nd3 c).px.length = (ndk c).px.length := by rw [(P3 c HC.out.2.2.2.2.1).2.2.2.2.1]
            rw [hpl] at d0
            have c3 := pb3.c0
            have f3 := free_of_block pb3.1 0
            have e1 : IntKind.i64.wrap (((wd c).length : Int) - ((ndk c).px.length : Int)) = ((wd p).length : Int) := by rw [IntWalk.i64_in _ (by omega)]; omega
            have g2 : (wd p).length ≤ cap := by omega
            have H3 := Lib.hid (⟨A3, P3, o3, pb3, v3, s3, m3, T3⟩ : _ ∧ _ ∧ _ ∧ _ ∧ _ ∧ _ ∧ _ ∧ _)
            clear A3 P3 o3 pb3 v3 s3 m3 T3 hpl d4 m1 m2
            go_wp2_with fail
            go_region
            go_wp2_with fail
            go_roundw
            case rel =>
              refine ⟨k + 1, nd3, L ++ visL M (wd c) ++ sub, by go_num, by omega, (?_ : WLoop t mp rp M O N wd S sh pb bb cap base skip V nd nd1 p acc w (ks'.take (k + 1)) nd3 (L ++ visL M (wd c) ++ sub) _)⟩
              obtain ⟨A3, P3, o3, pb3, v3, s3, m3, T3⟩ := H3.out
              rw [take_snoc HC.out.1]
              exact walk_backU HX.out HL.out HH.out.hp HC.out.2.2.2.1 HC.out.2.2.1 A3 P3 o3 pb3 v3 s3 (fun _ => HSK.out) m3 HV2.out.2.2.2 T3 rfl ⟨rfl, rfl, rfl⟩
            case measure => simp [intOf]; omega
    · have hkk : k = ks'.length := by omega
      subst hkk
      have g1 : ¬ (ks'.length : Int) < (ks'.length : Int) := by omega
      go_wp2_with fail
      go_ret
      refine HL.out.post HH.out.hp (fun c hc => ?_)
      rw [HL.out.at_, HCLS.out] at hc
      rw [List.take_length]
      exact hc
end

end Go.Proofs.Ytmdbnjepajifpaa

/- (*denseChildList).walk. -/
namespace Go.Proofs.Ytmdbnjepajifpaa
open Go.RowKit Go.Proofs.YtmdbnjepajifpaaW.PrintWords Go.Proofs.YtmdbnjepajifpaaW.PrintLast Go.Proofs.YtmdbnjepajifpaaW.PrintMore

theorem take_fm_some {l : List (Option Nat)} {k c : Nat} (h : l[k]? = some (some c)) : (l.take (k + 1)).filterMap id = (l.take k).filterMap id ++ [c] := by
  rw [take_snoc h, List.filterMap_append]; rfl
theorem take_fm_none {l : List (Option Nat)} {k : Nat} (h : l[k]? = some none) : (l.take (k + 1)).filterMap id = (l.take k).filterMap id := by
  rw [take_snoc h, List.filterMap_append, show ([none] : List (Option Nat)).filterMap id = [] from rfl, List.append_nil]
theorem px_lt {u v : Wd} (hu : u ≠ []) (hv : v ≠ []) (h : (u.headD 0).toNat < (v.headD 0).toNat) : u < v := by
  cases u with
  | nil => exact absurd rfl hu
  | cons x u =>
    cases v with
    | nil => exact absurd rfl hv
    | cons y v =>
      rw [List.cons_lt_cons_iff]
      exact .inl h

section
variable {t : Nat} {mp : Int} {rp : Wd} {M : Wd → Option Int} {O : Nat → Prop} {N : Nat → Prop} {wd : Nat → List UInt8} {S : Nat → List UInt8} {sh : Nat → Nat} {pb bb cap base F : Nat} {binds : Array Value} {skip : Wd → Bool} {V : List Wd → World → Prop} {nd nd1 ndk : Nat → Nd} {p c l a cp mn hi : Nat} {acc L : List Wd} {w wr : World} {arr : List (Option Nat)}

set_option maxRecDepth 100000 in
set_option maxHeartbeats 6400000 in
theorem dn_walk (X : WFix t M O pb bb cap base F binds skip V) (H : WPre t mp rp M O N wd S sh pb bb cap base V nd p acc w) (hcl : (nd p).cl = .dn l a mn hi arr) (IH : ∀ c, c ∈ arr.filterMap id → WalkIH t mp rp M O N wd S sh pb bb cap base F binds skip V c) :
    Calls Try.prog 152 #[.pointer (some ⟨l, 0, none⟩), .pointer (some ⟨pb, 0, none⟩), .func (.func F) #[] binds] w (WPost t mp rp M O N wd S sh pb bb cap base skip V nd p acc w) := by
  have hraw := (H.A.T.H p H.hp).raw
  rw [hcl] at hraw
  obtain ⟨r1, r2, _⟩ := hraw
  have c0 : w.cell? ⟨l, 4, none⟩ = some (.slice (some ⟨a, 0, none⟩) arr.length arr.length) := by rw [cell_of_block r1]; rfl
  have hen := X.vis.enter
  have hW : WLoop t mp rp M O N wd S sh pb bb cap base skip V nd nd p acc w ((arr.take 0).filterMap id) nd [] w := ⟨H.A, NdP.refl _ _, rfl, fun _ _ _ => rfl, H.pbw, by rw [List.append_nil]; exact H.v, by rw [List.append_nil]; exact H.srt, fun u => ⟨fun h => (by cases h), fun ⟨_, d, h, _⟩ => (by cases h)⟩, Tch.refl _ _⟩
  have HX := Lib.hid X
  have HH := Lib.hid H
  have HCL := Lib.hid hcl
  have HIH := Lib.hid IH
  have HW := Lib.hid hW
  have hlen : arr.length ≤ 256 := by omega
  clear X H hcl IH r1 r2 hW
  go_enter Try.func152, Try.ntmps152
  go_wp2_with fail
  go_loopw [16] (fun i wr => ∃ (k : Nat) (ndk : Nat → Nd) (L : List Wd), i = .int .i64 (k : Int) ∧ k ≤ arr.length ∧ Hid (WLoop t mp rp M O N wd S sh pb bb cap base skip V nd nd p acc w ((arr.take k).filterMap id) ndk L wr)) (fun i _ => arr.length - (intOf i).toNat)
  case atStart => exact ⟨0, nd, [], rfl, Nat.zero_le _, HW.out⟩
  case round =>
    obtain ⟨k, ndk, L, rfl, hkl, HL⟩ := hrel
    by_cases hk : k < arr.length
    · obtain ⟨x, hc⟩ : ∃ x, arr[k]? = some x := ⟨_, List.getElem?_eq_getElem hk⟩
      have hcl := HCL.out
      rw [← HL.out.at_] at hcl
      have hraw := (HL.out.A.T.H p HH.out.hp).raw
      have hplc := HL.out.A.T.I.placed p HH.out.hp
      rw [hcl] at hraw hplc
      obtain ⟨r1, r2, r3, r4, r5⟩ := hraw
      have g1 : (k : Int) < (arr.length : Int) := by omega
      cases x with
      | none =>
        have c2 : wr.cell? ⟨a, k, none⟩ = some (.pointer none) := by rw [cell_of_block r5, List.getElem?_toArray, List.getElem?_map, hc]; rfl
        have HC := Lib.hid hc
        clear hc hcl hplc r1 r2 r3 r4 r5
        go_wp2_with fail
        go_roundw
        case rel =>
          refine ⟨k + 1, ndk, L, by go_num, by omega, (?_ : WLoop t mp rp M O N wd S sh pb bb cap base skip V nd nd p acc w ((arr.take (k + 1)).filterMap id) ndk L _)⟩
          rw [take_fm_none HC.out]
          exact HL.out
        case measure => simp [intOf]; omega
      | some c =>
        have hck : c ∈ (ndk p).cl.kids := by rw [hcl]; exact List.mem_filterMap.2 ⟨some c, List.mem_of_getElem? hc, rfl⟩
        have hks : ∀ d, d ∈ (arr.take k).filterMap id → d ∈ (ndk p).cl.kids := fun d hd => by
          rw [hcl]
          obtain ⟨y, hy, e⟩ := List.mem_filterMap.1 hd
          exact List.mem_filterMap.2 ⟨y, List.mem_of_mem_take hy, e⟩
        obtain ⟨hcN, hw, hpx, h10, hHN, hnp⟩ := HL.out.kid HH.out.hp hck
        have hlt : ∀ d, d ∈ (arr.take k).filterMap id → (ndk d).px < (ndk c).px := fun d hd => by
          obtain ⟨_, _, _, hdx⟩ := HL.out.A.T.I.kid p HH.out.hp d (hks d hd)
          obtain ⟨y, hy, e⟩ := List.mem_filterMap.1 hd
          obtain rfl : y = some d := e
          obtain ⟨i, hi⟩ := List.getElem?_of_mem hy
          rw [List.getElem?_take] at hi
          split at hi
          · rename_i hik
            have h1 : (ndk d).fb.toNat = mn + i := hplc i d hi
            have h2 : (ndk c).fb.toNat = mn + k := hplc k c hc
            exact px_lt hdx (List.length_pos_iff.1 hpx) (show (ndk d).fb.toNat < (ndk c).fb.toNat by omega)
          · cases hi
        clear hplc
        obtain ⟨s1, s2, s3⟩ := walk_srt HH.out HL.out hks hck hlt
        have hll : (wd c).length = (wd p).length + (ndk c).px.length := by rw [hw, List.length_append]
        have hcap := HL.out.pbw.2.1
        have hcap2 := HL.out.pbw.2.2.1
        have c2 : wr.cell? ⟨a, k, none⟩ = some (.pointer (some ⟨c, 0, none⟩)) := by rw [cell_of_block r5, List.getElem?_toArray, List.getElem?_map, hc]; rfl
        have c3 := HL.out.pbw.c0
        have f3 := free_of_block HL.out.pbw.1 0
        have c4 := hHN.sl hnp
        have hroom : (wd p).length + (ndk c).px.length ≤ cap := by omega
        have g1 : (k : Int) < (arr.length : Int) := by omega
        have HC := Lib.hid (⟨hc, hcl, hck, hks, hcN, hw, hpx, hHN, hnp⟩ : _ ∧ _ ∧ _ ∧ _ ∧ _ ∧ _ ∧ _ ∧ _ ∧ _)
        have HS := Lib.hid (⟨s1, s2, s3⟩ : _ ∧ _ ∧ _)
        have HKS := Lib.hid (hHN.ks hnp)
        have HBB : Hid (∃ (C : Array Value) (fr : Nat × Nat), wr.heap[bb]? = some (.cells C 5 fr) ∧ 0 + cap ≤ C.size ∧ (∀ i, i < C.size → wr.frozen? ⟨bb, i, none⟩ = false)) := by
          obtain ⟨_, _, _, C, b1, b2, _⟩ := HL.out.pbw
          show ∃ _, _
          exact ⟨C, _, b1, by omega, fun i _ => free_of_block b1 i⟩
        have HPB := Lib.hid HL.out.pbw.1
        have HNE := Lib.hid HL.out.pbw.ne
        have hcb : c ≠ bb := fun e => HX.out.obb (by rw [← e]; exact (HL.out.A.own c hcN).1)
        have HCO := Lib.hid hHN.obj
        clear hc hcl hck hks hcN hw hpx hHN hnp s1 s2 s3 hlt r1 r2 r3 r4 r5
        go_wp2_with fail
        go_region_law (refine step_append_bytes_in rfl (.tmp 25) (.tmp 29) rfl wr ⟨rfl, rfl, rfl, rfl⟩ bb 0 (wd p).length cap rfl (ndk c).sb (ndk c).so (ndk c).px.length (ndk c).sc rfl (ndk c).px rfl HKS.out HBB.out hroom ?_; intro w' hT hC; have q1 : w'.frozen? ⟨pb, 0, none⟩ = false := (by rw [frozen_same (hT.keep pb (lt_of_heap HPB.out) HNE.out)]; exact f3); have q2 : w'.cell? ⟨pb, 0, none⟩ = some (.slice (some ⟨bb, 0, none⟩) (wd p).length cap) := (by rw [cell_of_block ((hT.keep pb (lt_of_heap HPB.out) HNE.out).trans HPB.out)]; rfl); have HT := Lib.hid hT; have HCC := Lib.hid hC; clear hT hC)
        all_goals
          have h2 := walk_in HX.out HL.out HH.out.hp HC.out.2.2.1 HT.out HCC.out (W2 := w'.setCell ⟨pb, 0, none⟩ (.slice (some ⟨bb, 0, none⟩) ((wd p).length + (ndk c).px.length) cap)) rfl
          generalize w'.setCell ⟨pb, 0, none⟩ (.slice (some ⟨bb, 0, none⟩) ((wd p).length + (ndk c).px.length) cap) = W2 at h2 ⊢
          obtain ⟨A2, pb2, v2, T2⟩ := h2
          have hN2 := A2.T.H c HC.out.2.2.2.2.1
          have d1 := hN2.c1
          have d4 : W2.cell? ⟨c, 4, none⟩ = some (.iface (ndk c).cl.ty (.pointer (some ⟨(ndk c).cl.l, 0, none⟩))) := hN2.c4
          have d0 := hN2.sl HC.out.2.2.2.2.2.2.2.2
          have H2 := Lib.hid (⟨A2, pb2, v2, T2⟩ : _ ∧ _ ∧ _ ∧ _)
          have m1 := m_walk (ndk c).cl
          have m2 := f_walk (ndk c).cl
          clear A2 pb2 v2 T2 hN2 c2 c3 c4 f3 q1 q2
          cases hit : (ndk c).it with
          | none =>
            rw [hit] at d1
            simp only [itv] at d1
            have hM : M (wd c) = none := by rw [H2.out.1.C.at_ c HC.out.2.2.2.2.1, hit]
            have hvl : visL M (wd c) = [] := by unfold visL; rw [hM]; rfl
            have HM := Lib.hid (⟨hM, hvl⟩ : _ ∧ _)
            clear hit hM hvl
            go_wp2_with fail
            refine (HIH.out c (List.mem_filterMap.2 ⟨some c, List.mem_of_getElem? HC.out.1, rfl⟩) W2 ndk (acc ++ (L ++ visL M (wd c))) ⟨H2.out.1, HC.out.2.2.2.2.1, H2.out.2.1, by rw [HM.out.2, List.append_nil]; exact H2.out.2.2.1, HS.out.1, HS.out.2.1, HS.out.2.2, Nat.le_trans HH.out.bw H2.out.2.2.2.size⟩).mono ?_
            rintro e W3 ⟨rfl, nd3, sub, A3, P3, o3, pb3, v3, s3, m3, T3⟩
            have d0 := (by have h := A3.T.H c HC.out.2.2.2.2.1; exact h.sl (A3.T.np HC.out.2.2.2.2.1) : W3.cell? ⟨c, 0, none⟩ = _)
            have hpl : (nd3 c).px.length = (ndk c).px.length := by rw [(P3 c HC.out.2.2.2.2.1).2.2.2.2.1]
            rw [hpl] at d0
            have c3 := pb3.c0
            have f3 := free_of_block pb3.1 0
            have e1 : IntKind.i64.wrap (((wd c).length : Int) - ((ndk c).px.length : Int)) = ((wd p).length : Int) := by rw [IntWalk.i64_in _ (by omega)]; omega
            have g2 : (wd p).length ≤ cap := by omega
            have H3 := Lib.hid (⟨A3, P3, o3, pb3, v3, s3, m3, T3⟩ : _ ∧ _ ∧ _ ∧ _ ∧ _ ∧ _ ∧ _ ∧ _)
            clear A3 P3 o3 pb3 v3 s3 m3 T3 hpl d1 d4 m1 m2
            go_wp2_with fail
            go_region
            go_wp2_with fail
            go_roundw
            case rel =>
              refine ⟨k + 1, nd3, L ++ visL M (wd c) ++ sub, by go_num, by omega, (?_ : WLoop t mp rp M O N wd S sh pb bb cap base skip V nd nd p acc w ((arr.take (k + 1)).filterMap id) nd3 (L ++ visL M (wd c) ++ sub) _)⟩
              obtain ⟨A3, P3, o3, pb3, v3, s3, m3, T3⟩ := H3.out
              rw [take_fm_some HC.out.1]
              exact walk_backU HX.out HL.out HH.out.hp HC.out.2.2.2.1 HC.out.2.2.1 A3 P3 o3 pb3 v3 s3 (fun h => absurd HM.out.1 h) m3 H2.out.2.2.2 T3 rfl ⟨rfl, rfl, rfl⟩
            case measure => simp [intOf]; omega
          | some v =>
            rw [hit] at d1
            simp only [itv] at d1
            have hM : M (wd c) ≠ none := by rw [H2.out.1.C.at_ c HC.out.2.2.2.2.1, hit]; simp
            have hvl : visL M (wd c) = [wd c] := by unfold visL; rw [H2.out.1.C.at_ c HC.out.2.2.2.2.1, hit]; rfl
            have HM := Lib.hid (⟨hM, hvl⟩ : _ ∧ _)
            clear hit hM hvl
            have hacc := acc_len HX.out.fin HL.out.srt (fun u hu => HS.out.2.2 u (by rw [← List.append_assoc]; exact List.mem_append_left _ hu))
            have hTd : Tch W2 W2.drew (fun _ => False) := (Tch.refl W2 _).drw
            have AD := hTd.ta H2.out.1 (fun _ _ h => h)
            have pbD := H2.out.2.1.keep hTd (fun h => h) (fun h => h)
            have vD := HX.out.vis.keep _ _ _ H2.out.2.2.1 (hTd.mono (fun _ _ h => h.elim))
            have TD := H2.out.2.2.2.trans hTd (fun _ _ h => h.elim)
            have d1 : W2.drew.cell? ⟨c, 1, none⟩ = some (.iface 3 (.int .i64 v)) := d1
            obtain ⟨W, hW⟩ : ∃ W, W2.drew = W := ⟨_, rfl⟩
            rw [hW] at AD pbD vD TD d1
            have hcall := HX.out.vis.call (acc ++ L) W (wd c) bb 0 cap v vD pbD.ks (.inr (.inr rfl)) (by omega) (by omega) (fun k hk => HX.out.bad AD pbD k hk) (Nat.le_trans HH.out.bw TD.size)
            have c3 := pbD.c0
            rw [hll] at hcall
            have HCALL := Lib.hid hcall
            have HD := Lib.hid (⟨AD, pbD, vD, TD⟩ : _ ∧ _ ∧ _ ∧ _)
            have HWW := Lib.hid hW
            clear hcall AD pbD vD TD hTd hW
            go_wp2_with fail
            refine wp_region_tail 8 (by kernel_rfl) (by kernel_rfl) HWW.out ?_
            simp only [List.take_succ_cons, List.take_zero, List.drop_succ_cons, List.drop_zero]
            repeat still_step
            refine wpStill_nil ?_
            go_wp2_with fail
            refine HCALL.out.mono ?_
            rintro e W3 ⟨rfl, vV, TV⟩
            have AV := TV.ta HD.out.1 (fun k hk h => h.1 (.inl hk))
            have pbV := HD.out.2.1.keep TV (fun h => h.1 (.inr (.inl rfl))) (fun h => h.1 (.inr (.inr rfl)))
            have TV := HD.out.2.2.2.trans TV (fun _ _ h => h.2)
            have c3 := pbV.c0
            have f3 := free_of_block pbV.1 0
            have d0 := (AV.T.H c HC.out.2.2.2.2.1).sl HC.out.2.2.2.2.2.2.2.2
            have d4 : W3.cell? ⟨c, 4, none⟩ = some (.iface (ndk c).cl.ty (.pointer (some ⟨(ndk c).cl.l, 0, none⟩))) := (AV.T.H c HC.out.2.2.2.2.1).c4
            have vV : V (acc ++ (L ++ visL M (wd c))) W3 := by rw [HM.out.2, ← List.append_assoc]; exact vV
            have HV2 := Lib.hid (⟨AV, pbV, vV, TV⟩ : _ ∧ _ ∧ _ ∧ _)
            have hE := eq_skip
            have hN := ne_nil
            clear AV pbV TV vV
            cases hsk : skip (wd c) with
            | true =>
              simp only [errV, if_true, skipV]
              have HSK := Lib.hid hsk
              have e1 : IntKind.i64.wrap (((wd c).length : Int) - ((ndk c).px.length : Int)) = ((wd p).length : Int) := by rw [IntWalk.i64_in _ (by omega)]; omega
              have g2 : (wd p).length ≤ cap := by omega
              clear hsk
              go_wp2_with fail
              go_region
              go_wp2_with fail
              go_roundw
              case rel =>
                refine ⟨k + 1, ndk, L ++ visL M (wd c) ++ [], by go_num, by omega, (?_ : WLoop t mp rp M O N wd S sh pb bb cap base skip V nd nd p acc w ((arr.take (k + 1)).filterMap id) ndk (L ++ visL M (wd c) ++ []) _)⟩
                obtain ⟨A3, pb3, v3, T3⟩ := HV2.out
                rw [take_fm_some HC.out.1]
                exact walk_backS HX.out HL.out HH.out.hp HC.out.2.2.2.1 HC.out.2.2.1 A3 pb3 v3 HS.out.1 HM.out.1 HSK.out T3 rfl ⟨rfl, rfl, rfl⟩
              case measure => simp [intOf]; omega
            | false =>
              simp only [errV, Bool.false_eq_true, if_false]
              have HSK := Lib.hid hsk
              clear hsk
              go_wp2_with fail
              refine (HIH.out c (List.mem_filterMap.2 ⟨some c, List.mem_of_getElem? HC.out.1, rfl⟩) W3 ndk (acc ++ (L ++ visL M (wd c))) ⟨HV2.out.1, HC.out.2.2.2.2.1, HV2.out.2.1, HV2.out.2.2.1, HS.out.1, HS.out.2.1, HS.out.2.2, Nat.le_trans HH.out.bw HV2.out.2.2.2.size⟩).mono ?_
              rintro e W4 ⟨rfl, nd3, sub, A3, P3, o3, pb3, v3, s3, m3, T3⟩
              have d0 := (by have h := A3.T.H c HC.out.2.2.2.2.1; exact h.sl (A3.T.np HC.out.2.2.2.2.1) : W4.cell? ⟨c, 0, none⟩ = _)
              have hpl : (nd3 c).px.length = (ndk c).px.length := by rw [(P3 c HC.out.2.2.2.2.1).2.2.2.2.1]
              rw [hpl] at d0
              have c3 := pb3.c0
              have f3 := free_of_block pb3.1 0
              have e1 : IntKind.i64.wrap (((wd c).length : Int) - ((ndk c).px.length : Int)) = ((wd p).length : Int) := by rw [IntWalk.i64_in _ (by omega)]; omega
              have g2 : (wd p).length ≤ cap := by omega
              have H3 := Lib.hid (⟨A3, P3, o3, pb3, v3, s3, m3, T3⟩ : _ ∧ _ ∧ _ ∧ _ ∧ _ ∧ _ ∧ _ ∧ _)
              clear A3 P3 o3 pb3 v3 s3 m3 T3 hpl d4 m1 m2
              go_wp2_with fail
              go_region
              go_wp2_with fail
              go_roundw
              case rel =>
                refine ⟨k + 1, nd3, L ++ visL M (wd c) ++ sub, by go_num, by omega, (?_ : WLoop t mp rp M O N wd S sh pb bb cap base skip V nd nd p acc w ((arr.take (k + 1)).filterMap id) nd3 (L ++ visL M (wd c) ++ sub) _)⟩
                obtain ⟨A3, P3, o3, pb3, v3, s3, m3, T3⟩ := H3.out
                rw [take_fm_some HC.out.1]
                exact walk_backU HX.out HL.out HH.out.hp HC.out.2.2.2.1 HC.out.2.2.1 A3 P3 o3 pb3 v3 s3 (fun _ => HSK.out) m3 HV2.out.2.2.2 T3 rfl ⟨rfl, rfl, rfl⟩
              case measure => simp [intOf]; omega
    · have hkk : k = arr.length := by omega
      subst hkk
      have g1 : ¬ (arr.length : Int) < (arr.length : Int) := by omega
      go_wp2_with fail
      go_ret
      refine HL.out.post HH.out.hp (fun c hc => ?_)
      rw [HL.out.at_, HCL.out] at hc
      rw [List.take_length]
      exact hc
end

end Go.Proofs.Ytmdbnjepajifpaa

/- (*Trie).walk: the word's bytes are copied into a block of its own, the root is visited, then all that lies beneath it. -/
namespace Go.Proofs.Ytmdbnjepajifpaa
open Go.RowKit Go.Proofs.YtmdbnjepajifpaaW.PrintWords Go.Proofs.YtmdbnjepajifpaaW.PrintLast Go.Proofs.YtmdbnjepajifpaaW.PrintMore

section
variable {t : Nat} {mp : Int} {rp : Wd} {M : Wd → Option Int} {O : Nat → Prop} {N : Nat → Prop} {wd : Nat → List UInt8} {S : Nat → List UInt8} {sh : Nat → Nat} {pb bb cap base F : Nat} {binds : Array Value} {skip : Wd → Bool} {V : List Wd → World → Prop}

/-- A walk over whatever lies beneath any node. -/
theorem walk_all (X : WFix t M O pb bb cap base F binds skip V) : ∀ (n p : Nat), 10 - (wd p).length < n → WalkIH t mp rp M O N wd S sh pb bb cap base F binds skip V p
  | 0, _, h => absurd h (Nat.not_lt_zero _)
  | n + 1, p, h => fun w2 nd2 acc2 H => by
    have hk : ∀ c, c ∈ (nd2 p).cl.kids → WalkIH t mp rp M O N wd S sh pb bb cap base F binds skip V c := fun c hc => by
      have h1 := H.A.T.I.kid_longer H.hp hc
      have h2 := H.A.T.I.len c (H.A.T.I.kid p H.hp c hc).1
      exact walk_all X n c (by omega)
    cases hcl : (nd2 p).cl with
    | sp l a cp ks => rw [hcl] at hk; exact sp_walk X H hcl hk
    | dn l a mn hi arr => rw [hcl] at hk; exact dn_walk X H hcl hk
end

theorem mk_bytes (n : Nat) (E : Int) (hE : E = n) (h : n ≤ 1000) (W : World) :
    (Instr.makeSlice 53 (.int .i64 E) (.int .i64 E)).run Try.prog W = .ok (.slice (some ⟨W.heap.size, 0, none⟩) n n) (W.alloc (.cells (madeCells (Value.int .u8 0).cells n) 5)) := by
  obtain ⟨i0, hi, hz0, hz1, hz2⟩ := info_parts infoByte
  subst hE
  rw [run_make (P := Try.prog) W 53 5 i0 (.int .u8 0) Try.underlying53 hi hz0 .i64 .i64 n n (by omega) (Int.le_refl _) (by rw [hz2]; omega) (by omega)]
  simp only [Int.toNat_natCast, hz1, Nat.mul_one]

theorem copy_run (ty : TypeId) (W w0 : World) (hsame : W.heap = w0.heap ∧ W.os = w0.os ∧ W.tape = w0.tape ∧ W.output = w0.output) (b n cap xb xo xc : Nat) (u : List UInt8) (hmn : u.length ≤ n) (hu : KS w0 xb xo u)
    (hblk : ∃ C, w0.heap[b]? = some (.cells C 5 (0, 0)) ∧ n ≤ C.size) :
    ∃ w', (Builtin.copy_ #[53, 53] ty #[.slice (some ⟨b, 0, none⟩) n cap, .slice (some ⟨xb, xo, none⟩) u.length xc]).run Try.prog W = .ok (goInt u.length) w' ∧ Tch w0 w' (fun k => k = b) ∧
      ∃ C', w'.heap[b]? = some (.cells C' 5 (0, 0)) ∧ n ≤ C'.size ∧ ∀ i, i < u.length → C'[i]? = some (.int .u8 ((u.getD i 0).toNat : Int)) := by
  obtain ⟨i0, hi, hz0, hz1, hz2⟩ := info_parts infoByte
  obtain ⟨s1, s2, s3, s4⟩ := hsame
  obtain ⟨C, hC, hn⟩ := hblk
  have cW : ∀ p, W.cell? p = w0.cell? p := fun p => by simp [World.cell?, s1]
  have fW : ∀ p, W.frozen? p = w0.frozen? p := fun p => by simp [World.frozen?, s1]
  have hr := run_copy_cells (P := Try.prog) W 53 53 ty 5 b 0 n cap ⟨xb, xo, none⟩ u.length xc (bytesV u) Try.underlying53 (by rw [hi]; simp [hz1]) (by rw [bytesV_len]; exact (Nat.min_eq_left hmn).symm)
    (fun j v hj => by
      obtain ⟨hlt, rfl⟩ := bytesV_get _ _ _ hj
      rw [Addr.add_lit, cW]
      exact hu j hlt)
    (fun j hj => by rw [bytesV_len] at hj; rw [cW, cell_of_block hC, Array.getElem?_eq_getElem (by omega)]; rfl) (fun j _ => by rw [fW]; exact free_of_block hC _) (bytesV_one _)
  rw [bytesV_len] at hr
  obtain ⟨m1, m2, m3, m4⟩ := setCells_meta b (bytesV u) 0 W
  obtain ⟨C', h1, h2, h3, h4⟩ := setCells_heap b 5 (0, 0) (bytesV u) 0 W C (by rw [s1]; exact hC)
  refine ⟨_, hr, ⟨m1.trans s2, m2.trans s3, m3.trans s4, by rw [m4, s1]; exact Nat.le_refl _, fun k _ hk => by rw [setCells_heap_ne b _ _ _ k hk, s1]⟩, C', h1, by omega, fun i hi => ?_⟩
  have := h4 i _ (by omega) (bytesV_at _ _ hi)
  rw [Nat.zero_add] at this
  exact this

set_option maxRecDepth 100000 in
theorem step_copy_bytes {ops : Array Oper} {o : Oper} {a : Act} {W : World} {K : Act → World → Prop} {Q : Exit → Act → World → Prop} {E : Prop} (hg : o.guard = none) (s x : Operand)
    (hop : o.op = Op.call { callee := Callee.builtin Builtin.copy, args := #[s, x], argTypes := #[53, 53] }) (w0 : World) (hsame : W.heap = w0.heap ∧ W.os = w0.os ∧ W.tape = w0.tape ∧ W.output = w0.output)
    (b n cap : Nat) (hs : a.eval s = .slice (some ⟨b, 0, none⟩) n cap) (xb xo m xc : Nat) (hx : a.eval x = .slice (some ⟨xb, xo, none⟩) m xc) (u : List UInt8) (hm : u.length = m) (hmn : u.length ≤ n) (hu : KS w0 xb xo u)
    (hblk : ∃ C, w0.heap[b]? = some (.cells C 5 (0, 0)) ∧ n ≤ C.size)
    (hK : ∀ w', Tch w0 w' (fun k => k = b) → (∃ C', w'.heap[b]? = some (.cells C' 5 (0, 0)) ∧ n ≤ C'.size ∧ ∀ i, i < u.length → C'[i]? = some (.int .u8 ((u.getD i 0).toNat : Int))) → K (a.put o.dst (goInt m)) w') :
    if Region.wanted o (yielded ops a.tmps) = true then Oper.wp Try.prog o a W K Q else E := by
  subst hm
  obtain ⟨w', hr, hT, hC⟩ := copy_run o.type W w0 hsame b n cap xb xo xc u hmn hu hblk
  have hw : Region.wanted o (yielded ops a.tmps) = true := by simp [Region.wanted, hg]
  rw [if_pos hw]
  unfold Oper.wp
  simp [execOp, hop, resolve, invoke, builtin, hs, hx, hr, Result.andThen]
  exact hK w' hT hC

end Go.Proofs.Ytmdbnjepajifpaa

/- (*Trie).walk with no prefix, as Visit calls it. -/
namespace Go.Proofs.Ytmdbnjepajifpaa
open Go.RowKit Go.Proofs.YtmdbnjepajifpaaW.PrintWords Go.Proofs.YtmdbnjepajifpaaW.PrintLast Go.Proofs.YtmdbnjepajifpaaW.PrintMore

/-- The words that a walk from a word on visits, the word itself with them. -/
def UndT (M : Wd → Option Int) (skip : Wd → Bool) (b u : Wd) : Prop :=
  M u ≠ none ∧ b <+: u ∧ ∀ s, s <+: u → b.length ≤ s.length → s.length < u.length → M s ≠ none → skip s = false

/-- A visitor, whatever blocks the walk makes for its prefix. -/
structure VisG (F : Nat) (binds : Array Value) (O : Nat → Prop) (base : Nat) (skip : Wd → Bool) (V : Nat → Nat → List Wd → World → Prop) (w : World) : Prop where
  vis : ∀ pb bb, w.heap.size ≤ pb → w.heap.size ≤ bb → Visr F binds base (fun k => O k ∨ k = pb ∨ k = bb) skip (V pb bb)
  start : ∀ pb bb W, w.heap.size ≤ pb → w.heap.size ≤ bb → Tch w W (fun _ => False) → V pb bb [] W

/-- What (*Trie).walk leaves. -/
def TWP (t : Nat) (mp : Int) (rp : Wd) (M : Wd → Option Int) (O : Nat → Prop) (N : Nat → Prop) (wd : Nat → List UInt8) (S : Nat → List UInt8) (sh : Nat → Nat) (base : Nat) (skip : Wd → Bool) (V : Nat → Nat → List Wd → World → Prop) (p : Nat) (w : World) (e : Ending) (w' : World) : Prop :=
  ∃ v, e = .returned v ∧ ∃ pb bb nd' L, TA w' t mp rp M O N nd' wd S sh ∧ V pb bb L w' ∧ Srt L ∧ (∀ u, u ∈ L ↔ UndT M skip (wd p) u) ∧ Tch w w' (fun k => base ≤ k)

section
variable {t : Nat} {mp : Int} {rp : Wd} {M : Wd → Option Int} {O : Nat → Prop} {N : Nat → Prop} {wd : Nat → List UInt8} {S : Nat → List UInt8} {sh : Nat → Nat} {base F : Nat} {binds : Array Value} {skip : Wd → Bool} {V : Nat → Nat → List Wd → World → Prop} {nd : Nat → Nd} {w : World}

theorem undT_iff {b u : Wd} : UndT M skip b u ↔ (u = b ∧ M b ≠ none) ∨ ((M b ≠ none → skip b = false) ∧ Und M skip b u) := by
  constructor
  · rintro ⟨h1, h2, h3⟩
    by_cases e : u = b
    · exact .inl ⟨e, by rw [← e]; exact h1⟩
    · right
      have hlt : b.length < u.length := by
        rcases Nat.lt_or_ge b.length u.length with h | h
        · exact h
        · exact absurd (h2.eq_of_length (Nat.le_antisymm h2.length_le h)).symm e
      exact ⟨fun hm => h3 b h2 (Nat.le_refl _) hlt hm, h1, h2, hlt, fun s hs hs1 hs2 hm => h3 s hs (Nat.le_of_lt hs1) hs2 hm⟩
  · rintro (⟨rfl, hm⟩ | ⟨hsk, h1, h2, h3, h4⟩)
    · exact ⟨hm, List.prefix_refl _, fun s hs h1 h2 => by omega⟩
    · refine ⟨h1, h2, fun s hs hs1 hs2 hm => ?_⟩
      rcases Nat.lt_or_eq_of_le hs1 with h | h
      · exact h4 s hs h hs2 hm
      · have : s = b := ((List.prefix_of_prefix_length_le h2 hs (by omega)).eq_of_length h).symm
        rw [this] at hm ⊢
        exact hsk hm

theorem und_visL {b : Wd} {sub : List Wd} (hsk : M b ≠ none → skip b = false) (hs : ∀ u, u ∈ sub ↔ Und M skip b u) (u : Wd) : u ∈ visL M b ++ sub ↔ UndT M skip b u := by
  rw [List.mem_append, visL_mem, hs, undT_iff]
  exact ⟨fun h => h.imp id (fun h => ⟨hsk, h⟩), fun h => h.imp id (fun h => h.2)⟩
theorem und_visS {b : Wd} (hM : M b ≠ none) (hsk : skip b = true) (u : Wd) : u ∈ visL M b ↔ UndT M skip b u := by
  rw [visL_mem, undT_iff]
  refine ⟨.inl, fun h => ?_⟩
  rcases h with h | ⟨h, _⟩
  · exact h
  · have := h hM; rw [hsk] at this; cases this
theorem srt_visL (b : Wd) : Srt (visL M b) := by
  unfold visL
  split
  · exact List.pairwise_singleton _ _
  · exact List.Pairwise.nil
theorem bef_visL (b : Wd) : Bef (visL M b) b := by
  intro u hu v hv hl
  rw [visL_mem] at hu
  rw [hu.1]; exact pre_lt hv hl

/-- The prefix has been laid out: the walk's fixed things. -/
theorem tw_fix (G : VisG F binds O base skip V w) (A : TA w t mp rp M O N nd wd S sh) (hO : ∀ k, O k → base ≤ k) (hbw : base ≤ w.heap.size) (hfin : ∃ U : List Wd, U.length ≤ 500 ∧ ∀ u, M u ≠ none → u ∈ U) (cap : Nat) :
    WFix t M O w.heap.size (w.heap.size + 1) cap base F binds skip (V w.heap.size (w.heap.size + 1)) :=
  ⟨G.vis _ _ (Nat.le_refl _) (by omega), fun h => Nat.lt_irrefl _ (A.lt _ h), fun h => by have := A.lt _ h; omega, hO, hbw, by omega, hfin⟩

/-- What holds where the prefix has been laid out. -/
theorem tw_start (G : VisG F binds O base skip V w) (A : TA w t mp rp M O N nd wd S sh) {p n : Nat} (hn : (wd p).length ≤ n ∧ 20 ≤ n ∧ n ≤ 1000) {W1 w' W2 : World} {v1 : Value} (hT1 : Tch w W1 (fun _ => False)) (hp1 : W1.heap[w.heap.size]? = some (.cells #[v1] 53 (0, 0)))
    (hT : Tch W1 w' (fun k => k = w.heap.size + 1)) (hC : ∃ C', w'.heap[w.heap.size + 1]? = some (.cells C' 5 (0, 0)) ∧ n ≤ C'.size ∧ ∀ i, i < (wd p).length → C'[i]? = some (.int .u8 (((wd p).getD i 0).toNat : Int)))
    (h2 : W2.heap = (w'.setCell ⟨w.heap.size, 0, none⟩ (.slice (some ⟨w.heap.size + 1, 0, none⟩) (wd p).length n)).heap) (hm : W2.os = w'.os ∧ W2.tape = w'.tape ∧ W2.output = w'.output) :
    TA W2 t mp rp M O N nd wd S sh ∧ PB W2 w.heap.size (w.heap.size + 1) n (wd p) ∧ V w.heap.size (w.heap.size + 1) [] W2 ∧ Tch w W2 (fun _ => False) := by
  obtain ⟨C', c1, c2, c3⟩ := hC
  have hp' : w'.heap[w.heap.size]? = some (.cells #[v1] 53 (0, 0)) := (hT.keep _ (lt_of_heap hp1) (by omega)).trans hp1
  have hT4 : Tch w' W2 (fun k => k = w.heap.size) := ⟨hm.1, hm.2.1, hm.2.2, by rw [h2]; simp, fun k _ hk => by rw [h2, heap_set_ne hk]⟩
  have hTw : Tch w W2 (fun _ => False) := ((hT1.trans (U := fun k => k = w.heap.size ∨ k = w.heap.size + 1) (hT.mono (fun _ _ h => .inr h)) (fun b hb h => by omega)).trans hT4 (fun b hb h => by omega))
  refine ⟨hTw.ta A (fun _ _ h => h), ⟨by rw [h2, heap_set hp']; rfl, hn.2.1, hn.2.2, C', by rw [h2, heap_set_ne (by omega)]; exact c1, c2, c3⟩, G.start _ _ _ (Nat.le_refl _) (by omega) hTw, hTw⟩

set_option maxRecDepth 100000 in
set_option maxHeartbeats 6400000 in
theorem twalk0 (G : VisG F binds O base skip V w) (A : TA w t mp rp M O N nd wd S sh) (hO : ∀ k, O k → base ≤ k) (hbw : base ≤ w.heap.size) (hfin : ∃ U : List Wd, U.length ≤ 500 ∧ ∀ u, M u ≠ none → u ∈ U) :
    Calls Try.prog 72 #[.pointer (some ⟨t, 0, none⟩), .slice none 0 0, .func (.func F) #[] binds] w (TWP t mp rp M O N wd S sh base skip V t w) := by
  have hN := A.T.H t A.T.I.root_mem
  have c0 := hN.sl A.T.rn
  have hl10 := A.T.pxl A.T.I.root_mem
  have htl : t < w.heap.size := lt_of_heap hN.obj
  have hmk := mk_bytes (32 + (nd t).px.length) (32 + ((nd t).px.length : Int)) (by omega) (by omega)
  have hnil := fun (W : World) => Lib.run_eql_slice_nil (P := Try.prog) W 53 5 none 0 0 0 0 Try.underlying53
  have HG := Lib.hid G
  have HA := Lib.hid A
  have HO := Lib.hid hO
  have HF := Lib.hid hfin
  have HN := Lib.hid hN
  clear G A hO hfin hN
  go_enter Try.func72, Try.ntmps72
  go_wp2_with fail
  obtain ⟨n, hn⟩ : ∃ n, 32 + (nd t).px.length = n := ⟨_, rfl⟩
  rw [hn]
  have hw := HA.out.T.I.root_wd
  have hT1 : Tch w ((w.alloc (.cells #[.slice (some ⟨w.heap.size + 1, 0, none⟩) n n] 53)).alloc (.cells (madeCells #[.int .u8 0] n) 5)) (fun _ => False) := ((Tch.refl w _).alloc _).alloc _
  have hp1 : ((w.alloc (.cells #[.slice (some ⟨w.heap.size + 1, 0, none⟩) n n] 53)).alloc (.cells (madeCells #[.int .u8 0] n) 5)).heap[w.heap.size]? = some (.cells #[.slice (some ⟨w.heap.size + 1, 0, none⟩) n n] 53 (0, 0)) := by
    rw [heap_alloc_old _ _ (by simp)]
    exact heap_new w _
  have hb1 : ((w.alloc (.cells #[.slice (some ⟨w.heap.size + 1, 0, none⟩) n n] 53)).alloc (.cells (madeCells #[.int .u8 0] n) 5)).heap[w.heap.size + 1]? = some (.cells (madeCells #[.int .u8 0] n) 5 (0, 0)) := by
    have := heap_new (w.alloc (.cells #[.slice (some ⟨w.heap.size + 1, 0, none⟩) n n] 53)) (.cells (madeCells #[.int .u8 0] n) 5)
    rw [show (w.alloc (.cells #[.slice (some ⟨w.heap.size + 1, 0, none⟩) n n] 53)).heap.size = w.heap.size + 1 by simp] at this
    exact this
  generalize (w.alloc (.cells #[.slice (some ⟨w.heap.size + 1, 0, none⟩) n n] 53)).alloc (.cells (madeCells #[.int .u8 0] n) 5) = W1 at hT1 hp1 hb1 ⊢
  have A1 := hT1.ta HA.out (fun _ _ h => h)
  have hN1 := A1.T.H t A1.T.I.root_mem
  have c0 := hN1.sl A1.T.rn
  have c3 : W1.cell? ⟨w.heap.size, 0, none⟩ = some (.slice (some ⟨w.heap.size + 1, 0, none⟩) n n) := by rw [cell_of_block hp1]; rfl
  have HKS := Lib.hid (hN1.ks A1.T.rn)
  have HBB : Hid (∃ C, W1.heap[w.heap.size + 1]? = some (.cells C 5 (0, 0)) ∧ n ≤ C.size) := (⟨_, hb1, by simp [size_madeCells]⟩ : ∃ C, W1.heap[w.heap.size + 1]? = some (.cells C 5 (0, 0)) ∧ n ≤ C.size)
  have H1 := Lib.hid (⟨hT1, hp1⟩ : _ ∧ _)
  have hlen : (nd t).px.length ≤ n := by omega
  clear hT1 hp1 hb1 A1 hN1 hmk hnil
  go_region_law (refine step_copy_bytes rfl (.tmp 18) (.tmp 22) rfl W1 ⟨rfl, rfl, rfl, rfl⟩ (w.heap.size + 1) n n rfl (nd t).sb (nd t).so (nd t).px.length (nd t).sc rfl (nd t).px rfl hlen HKS.out HBB.out ?_; intro w' hT hC; have HT := Lib.hid hT; have HCC := Lib.hid hC; clear hT hC)
  all_goals
    have hTw'' : Tch w w' (fun _ => False) := (H1.out.1.trans (U := fun k => k = w.heap.size + 1) (HT.out.mono (fun _ _ h => h)) (fun b hb h => by omega))
    have c0' := ((hTw''.ta HA.out (fun _ _ h => h)).T.H t HA.out.T.I.root_mem).sl HA.out.T.rn
    have hp' : w'.heap[w.heap.size]? = some (.cells #[.slice (some ⟨w.heap.size + 1, 0, none⟩) n n] 53 (0, 0)) := (HT.out.keep _ (lt_of_heap H1.out.2) (by omega)).trans H1.out.2
    have c3' : w'.cell? ⟨w.heap.size, 0, none⟩ = some (.slice (some ⟨w.heap.size + 1, 0, none⟩) n n) := by rw [cell_of_block hp']; rfl
    have f3' := free_of_block hp' 0
    clear hTw'' hp' c0 c3
    go_wp2_with fail
    go_region
    have hst := tw_start HG.out HA.out (p := t) (n := n) (by rw [hw]; omega) H1.out.1 H1.out.2 HT.out (by rw [hw]; exact HCC.out) (W2 := (w'.setCell ⟨w.heap.size, 0, none⟩ (.slice (some ⟨w.heap.size + 1, 0, none⟩) (nd t).px.length n)).drew) (by rw [hw]; rfl) ⟨rfl, rfl, rfl⟩
    generalize (w'.setCell ⟨w.heap.size, 0, none⟩ (.slice (some ⟨w.heap.size + 1, 0, none⟩) (nd t).px.length n)).drew = W2 at hst ⊢
    have HX := Lib.hid (tw_fix HG.out HA.out HO.out hbw HF.out n)
    have htN := HA.out.T.I.root_mem
    have ht10 := HA.out.T.I.len t htN
    have hwl : (wd t).length = (nd t).px.length := by rw [hw]
    obtain ⟨A2, pb2, v2, T2⟩ := hst
    have hen := HX.out.vis.enter
    have d1 := (A2.T.H t htN).c1
    have d4 : W2.cell? ⟨t, 4, none⟩ = some (.iface (nd t).cl.ty (.pointer (some ⟨(nd t).cl.l, 0, none⟩))) := (A2.T.H t htN).c4
    have H2 := Lib.hid (⟨A2, pb2, v2, T2⟩ : _ ∧ _ ∧ _ ∧ _)
    have HNT := Lib.hid htN
    have m1 := m_walk (nd t).cl
    have m2 := f_walk (nd t).cl
    clear A2 pb2 v2 T2 c0' c3' f3' htN
    cases hit : (nd t).it with
    | none =>
      rw [hit] at d1
      simp only [itv] at d1
      have hM : M (wd t) = none := by rw [HA.out.C.at_ t HNT.out, hit]
      have hvl : visL M (wd t) = [] := by unfold visL; rw [hM]; rfl
      have HM := Lib.hid (⟨hM, hvl⟩ : _ ∧ _)
      clear hit hM hvl
      go_wp2_with fail
      refine (walk_all HX.out 11 t (by omega) W2 nd [] ⟨H2.out.1, HNT.out, H2.out.2.1, H2.out.2.2.1, List.Pairwise.nil, fun u hu => (by cases hu), fun u hu => (by cases hu), Nat.le_trans hbw H2.out.2.2.2.size⟩).mono ?_
      rintro e W3 ⟨rfl, nd3, sub, A3, P3, o3, pb3, v3, s3, m3, T3⟩
      rw [List.nil_append] at v3 s3
      have H3 := Lib.hid (⟨A3, v3, s3, m3, T3⟩ : _ ∧ _ ∧ _ ∧ _ ∧ _)
      clear A3 P3 o3 pb3 v3 s3 m3 T3
      go_wp2_with fail
      go_ret
      obtain ⟨A3, v3, s3, m3, T3⟩ := H3.out
      refine ⟨_, rfl, _, _, nd3, sub, A3, v3, s3, fun u => ?_, (H2.out.2.2.2.mono (fun _ _ h => h.elim)).trans T3 (fun _ _ h => h)⟩
      rw [← und_visL (fun h => absurd HM.out.1 h) m3, HM.out.2, List.nil_append]
    | some v =>
      rw [hit] at d1
      simp only [itv] at d1
      have hM : M (wd t) ≠ none := by rw [HA.out.C.at_ t HNT.out, hit]; simp
      have hvl : visL M (wd t) = [wd t] := by unfold visL; rw [HA.out.C.at_ t HNT.out, hit]; rfl
      have HM := Lib.hid (⟨hM, hvl⟩ : _ ∧ _)
      clear hit hM hvl
      have hTd : Tch W2 W2.drew (fun _ => False) := (Tch.refl W2 _).drw
      have AD := hTd.ta H2.out.1 (fun _ _ h => h)
      have pbD := H2.out.2.1.keep hTd (fun h => h) (fun h => h)
      have vD := HX.out.vis.keep _ _ _ H2.out.2.2.1 (hTd.mono (fun _ _ h => h.elim))
      have TD := H2.out.2.2.2.trans hTd (fun _ _ h => h.elim)
      have d1 : W2.drew.cell? ⟨t, 1, none⟩ = some (.iface 3 (.int .i64 v)) := d1
      obtain ⟨W, hW⟩ : ∃ W, W2.drew = W := ⟨_, rfl⟩
      rw [hW] at AD pbD vD TD d1
      have hcall := HX.out.vis.call [] W (wd t) (w.heap.size + 1) 0 n v vD pbD.ks (.inr (.inr rfl)) (by omega) (Nat.zero_le _) (fun k hk => HX.out.bad AD pbD k hk) (Nat.le_trans hbw TD.size)
      have c3 := pbD.c0
      rw [hwl] at hcall
      have HCALL := Lib.hid hcall
      have HD := Lib.hid (⟨AD, pbD, vD, TD⟩ : _ ∧ _ ∧ _ ∧ _)
      have HWW := Lib.hid hW
      clear hcall AD pbD vD TD hTd hW
      go_wp2_with fail
      refine wp_region_tail 6 (by kernel_rfl) (by kernel_rfl) HWW.out ?_
      simp only [List.take_succ_cons, List.take_zero, List.drop_succ_cons, List.drop_zero]
      repeat still_step
      refine wpStill_nil ?_
      go_wp2_with fail
      refine HCALL.out.mono ?_
      rintro e W3 ⟨rfl, vV, TV⟩
      have AV := TV.ta HD.out.1 (fun k hk h => h.1 (.inl hk))
      have pbV := HD.out.2.1.keep TV (fun h => h.1 (.inr (.inl rfl))) (fun h => h.1 (.inr (.inr rfl)))
      have TV : Tch w W3 (fun k => base ≤ k) := (HD.out.2.2.2.mono (fun _ _ h => h.elim)).trans TV (fun _ _ h => h.2)
      have d4 : W3.cell? ⟨t, 4, none⟩ = some (.iface (nd t).cl.ty (.pointer (some ⟨(nd t).cl.l, 0, none⟩))) := (AV.T.H t HNT.out).c4
      rw [List.nil_append, ← HM.out.2] at vV
      have HV2 := Lib.hid (⟨AV, pbV, vV, TV⟩ : _ ∧ _ ∧ _ ∧ _)
      have hE := eq_skip
      have hN := ne_nil
      clear AV pbV TV vV
      cases hsk : skip (wd t) with
      | true =>
        simp only [errV, if_true, skipV]
        have HSK := Lib.hid hsk
        clear hsk
        go_wp2_with fail
        go_ret
        exact ⟨_, rfl, _, _, nd, visL M (wd t), HV2.out.1, HV2.out.2.2.1, srt_visL _, fun u => und_visS HM.out.1 HSK.out u, HV2.out.2.2.2⟩
      | false =>
        simp only [errV, Bool.false_eq_true, if_false]
        have HSK := Lib.hid hsk
        clear hsk
        go_wp2_with fail
        refine (walk_all HX.out 11 t (by omega) W3 nd (visL M (wd t)) ⟨HV2.out.1, HNT.out, HV2.out.2.1, HV2.out.2.2.1, srt_visL _, bef_visL _, fun u hu => by rw [visL_mem] at hu; rw [hu.1]; exact hu.2, Nat.le_trans hbw HV2.out.2.2.2.size⟩).mono ?_
        rintro e W4 ⟨rfl, nd3, sub, A3, P3, o3, pb3, v3, s3, m3, T3⟩
        have H3 := Lib.hid (⟨A3, v3, s3, m3, T3⟩ : _ ∧ _ ∧ _ ∧ _ ∧ _)
        clear A3 P3 o3 pb3 v3 s3 m3 T3
        go_wp2_with fail
        go_ret
        obtain ⟨A3, v3, s3, m3, T3⟩ := H3.out
        exact ⟨_, rfl, _, _, nd3, _, A3, v3, s3, fun u => und_visL (fun _ => HSK.out) m3 u, HV2.out.2.2.2.trans T3 (fun _ _ h => h)⟩
end

end Go.Proofs.Ytmdbnjepajifpaa
