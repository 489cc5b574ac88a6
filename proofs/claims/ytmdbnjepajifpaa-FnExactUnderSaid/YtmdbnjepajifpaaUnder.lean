/- VisitSubtree; impl.Under. -/
import Derived.Test.YtmdbnjepajifpaaTWalk1
import Derived.Test.YtmdbnjepajifpaaVisit
import Derived.Test.YtmdbnjepajifpaaVUnder
import Derived.Test.YtmdbnjepajifpaaC8
set_option linter.unusedVariables false
set_option linter.unusedSimpArgs false
namespace Go.Proofs.Ytmdbnjepajifpaa
open Go.RowKit Go.Proofs.YtmdbnjepajifpaaW.PrintWords Go.Proofs.YtmdbnjepajifpaaW.PrintLast Go.Proofs.YtmdbnjepajifpaaW.PrintMore

theorem getD_left {l r : Wd} {i : Nat} (h : i < l.length) : (l ++ r).getD i 0 = l.getD i 0 := by
  rw [List.getD_eq_getElem?_getD, List.getElem?_append_left h, ← List.getD_eq_getElem?_getD]
theorem getD_right {l r : Wd} {i : Nat} (h : l.length ≤ i) : (l ++ r).getD i 0 = r.getD (i - l.length) 0 := by
  rw [List.getD_eq_getElem?_getD, List.getElem?_append_right h, ← List.getD_eq_getElem?_getD]

theorem AppR.ks {w0 w' : World} {b n cap b' o' cap' : Nat} {olds news : List UInt8} (h : AppR w0 b 0 n cap olds news b' o' cap' w') (hn : olds.length = n) (hk : KS w0 b 0 olds)
    (hblk : ∃ (C : Array Value) (fr : Nat × Nat), w0.heap[b]? = some (.cells C 5 fr)) : KS w' b' o' (olds ++ news) := by
  obtain ⟨_, ⟨_, rfl, rfl, rfl, hC⟩ | ⟨_, rfl, _, _, C, h1, _, h3⟩⟩ := h
  · obtain ⟨C, fr, hb⟩ := hblk
    obtain ⟨C', h1, _, h3, h4⟩ := hC C fr hb
    intro i hi
    rw [List.length_append] at hi
    rw [cell_of_block h1, Nat.zero_add]
    by_cases hlt : i < olds.length
    · rw [h3 i (.inl (by omega)), getD_left hlt]
      have := hk i hlt
      rw [cell_of_block hb, Nat.zero_add] at this
      exact this
    · have := h4 (i - olds.length) (by omega)
      rw [show 0 + n + (i - olds.length) = i by omega] at this
      rw [this, getD_right (by omega)]
  · intro i hi
    rw [cell_of_block h1, Nat.zero_add]
    exact h3 i hi

set_option maxRecDepth 100000 in
/-- Bytes appended to bytes, where a call of append stands alone. -/
theorem wpList_append_bytes {ops : Array Oper} {rest : List Oper} {o : Oper} {a : Act} {W : World} {Q : Exit → Act → World → Prop} (hg : o.guard = none) (s x : Operand)
    (hop : o.op = Op.call { callee := Callee.builtin Builtin.append, args := #[s, x], argTypes := #[53, 53] }) (w0 : World) (hsame : W.heap = w0.heap ∧ W.os = w0.os ∧ W.tape = w0.tape ∧ W.output = w0.output)
    (b off n cap : Nat) (hs : a.eval s = .slice (some ⟨b, off, none⟩) n cap) (olds : List UInt8) (hn : olds.length = n) (xb xo m xc : Nat) (hx : a.eval x = .slice (some ⟨xb, xo, none⟩) m xc) (news : List UInt8) (hm : news.length = m)
    (hpos : 0 < n + m) (ho : KS w0 b off olds) (hnw : KS w0 xb xo news) (hblk : ∃ (C : Array Value) (fr : Nat × Nat), w0.heap[b]? = some (.cells C 5 fr) ∧ off + cap ≤ C.size ∧ (∀ i, i < C.size → w0.frozen? ⟨b, i, none⟩ = false)) (hsz : n + m ≤ 100000)
    (hK : ∀ b' o' cap' w', AppR w0 b off n cap olds news b' o' cap' w' → wpList Try.prog ops Q rest (a.put o.dst (.slice (some ⟨b', o', none⟩) (n + m) cap')) w') : wpList Try.prog ops Q (o :: rest) a W := by
  refine wpList_plain hg fun K hK' => ?_
  have h := step_append_bytes (ops := ops) (K := K) (Q := Q) (E := True) hg s x hop w0 hsame b off n cap hs olds hn xb xo m xc hx news hm hpos ho hnw hblk hsz (fun b' o' cap' w' hR => hK' _ _ (hK b' o' cap' w' hR))
  rw [if_pos (by simp [Region.wanted, hg])] at h
  exact h

section
variable {t : Nat} {mp : Int} {rp : Wd} {M : Wd → Option Int} {O : Nat → Prop} {N : Nat → Prop} {wd : Nat → List UInt8} {S : Nat → List UInt8} {sh : Nat → Nat} {base F : Nat} {binds : Array Value} {skip : Wd → Bool} {V : Nat → Nat → List Wd → World → Prop} {nd : Nat → Nd} {w : World}

/-- What VisitSubtree leaves. -/
def SubP (t : Nat) (mp : Int) (rp : Wd) (M : Wd → Option Int) (O : Nat → Prop) (N : Nat → Prop) (wd : Nat → List UInt8) (S : Nat → List UInt8) (sh : Nat → Nat) (base : Nat) (skip : Wd → Bool) (V : Nat → Nat → List Wd → World → Prop) (K : Wd) (w : World) (e : Ending) (w' : World) : Prop :=
  ∃ v, e = .returned v ∧ (((∀ r, N r → ¬ K <+: wd r) ∧ ∃ n, w' = w.drewN n) ∨
    ∃ p, N p ∧ K <+: wd p ∧ (∀ r, N r → K <+: wd r → wd p <+: wd r) ∧ ∃ pb bb nd' L, TA w' t mp rp M O N nd' wd S sh ∧ V pb bb L w' ∧ Srt L ∧ (∀ u, u ∈ L ↔ UndT M skip (wd p) u) ∧ Tch w w' (fun k => base ≤ k))

set_option maxRecDepth 100000 in
set_option maxHeartbeats 3200000 in
theorem visitSub_any (kb : Nat) (hG : ∀ W1, Tch w W1 (fun k => k = kb) → VisG F binds O base skip V W1) (A : TA w t mp rp M O N nd wd S sh) (hO : ∀ k, O k → base ≤ k) (hbw : base ≤ w.heap.size) (hfin : ∃ U : List Wd, U.length ≤ 500 ∧ ∀ u, M u ≠ none → u ∈ U)
    (kc : Nat) (K : Wd) (hk : KeyAt w kb kc K) (hK0 : 0 < K.length) (hK10 : K.length ≤ 10) (hkO : ¬ O kb) (hkb : base ≤ kb) :
    Calls Try.prog 57 #[.pointer (some ⟨t, 0, none⟩), .slice (some ⟨kb, 0, none⟩) K.length kc, .func (.func F) #[] binds] w (SubP t mp rp M O N wd S sh base skip V K w) := by
  have hfd := find_any w A.T kb 0 kc K hk.1 hk.2.1 hK10
  have c0 := (A.T.H t A.T.I.root_mem).sl A.T.rn
  have hnil := fun (W : World) (a : Addr) (n c : Nat) => Lib.run_eql_slice_nil (P := Try.prog) W 53 5 (some a) n c 0 0 Try.underlying53
  have HFD := Lib.hid hfd
  have HG := Lib.hid hG
  have HA := Lib.hid A
  have HO := Lib.hid hO
  have HF := Lib.hid hfin
  have HKA := Lib.hid hk
  clear hfd hG A hO hfin hk
  go_enter Try.func57, Try.ntmps57
  go_wp2_with fail
  refine HFD.out.mono ?_
  rintro e w1 ⟨P, q, f, lo, rfl, ⟨n1, rfl⟩, hno, hyes⟩
  cases f with
  | false =>
    have HNO := Lib.hid (hno rfl)
    clear hno hyes
    go_wp2_with fail
    go_ret
    exact ⟨_, rfl, .inl ⟨HNO.out, _, rfl⟩⟩
  | true =>
    obtain ⟨hq, -, hall, b, o, m, l, rfl, hwq, hkl, hl10⟩ := hyes rfl
    have HY := Lib.hid (⟨hq, hall, hwq, hkl⟩ : _ ∧ _ ∧ _ ∧ _)
    have HBK : Hid (∃ (C : Array Value) (fr : Nat × Nat), (w.drewN n1).heap[kb]? = some (.cells C 5 fr) ∧ 0 + kc ≤ C.size ∧ (∀ i, i < C.size → (w.drewN n1).frozen? ⟨kb, i, none⟩ = false)) := by
      obtain ⟨C, fr, h1, h2, h3⟩ := HKA.out.2.2
      exact (⟨C, fr, h1, by omega, h3⟩ : ∃ (C : Array Value) (fr : Nat × Nat), (w.drewN n1).heap[kb]? = some (.cells C 5 fr) ∧ 0 + kc ≤ C.size ∧ (∀ i, i < C.size → (w.drewN n1).frozen? ⟨kb, i, none⟩ = false))
    have hlq : (wd q).length = K.length + l.length := by rw [hwq, List.length_append]
    have HLQ := Lib.hid hlq
    clear hno hyes hq hall hwq hkl hlq hnil
    go_wp2_with (first | ((with_reducible refine gate_builtin (b := .append) (xs := #[.tmp 29, .tmp 30]) rfl ?_); at_builtin; go_loud (refine wpList_append_bytes rfl (.tmp 29) (.tmp 30) rfl (w.drewN n1) ⟨rfl, rfl, rfl, rfl⟩ kb 0 K.length kc rfl K rfl b o l.length m rfl l rfl (by omega) HKA.out.1 HY.out.2.2.2 HBK.out (by omega) ?_); intro b' o' cap' w' hR; have hT := ((Tch.refl w (fun k => k = kb)).drn n1).trans hR.1 (fun _ _ h => h); have hks := hR.ks rfl HKA.out.1 (by obtain ⟨C, fr, h1, _⟩ := HBK.out; exact ⟨C, fr, h1⟩); rw [← HY.out.2.2.1] at hks; have htw := twalk1 (HG.out w' hT) (hT.ta HA.out (fun k hk h => hkO (h ▸ hk))) HO.out (Nat.le_trans hbw hT.size) HF.out q HY.out.1 b' o' cap' hks; rw [HLQ.out] at htw; have HTW := Lib.hid htw; have HT := Lib.hid hT; clear hR hks htw hT))
    refine HTW.out.mono ?_
    rintro e w2 ⟨v, rfl, pb, bb, nd', L, A2, v2, s2, m2, T2⟩
    have H2 := Lib.hid (⟨A2, v2, s2, m2, T2⟩ : _ ∧ _ ∧ _ ∧ _ ∧ _)
    clear A2 v2 s2 m2 T2
    go_wp2_with fail
    go_ret
    exact ⟨_, rfl, .inr ⟨q, HY.out.1, by rw [HY.out.2.2.1]; exact List.prefix_append _ _, HY.out.2.1, pb, bb, nd', L, H2.out.1, H2.out.2.1, H2.out.2.2.1, H2.out.2.2.2.1, (HT.out.mono (fun b hb h => by rw [h]; exact hkb)).trans H2.out.2.2.2.2 (fun _ _ h => h)⟩⟩
end

set_option maxRecDepth 100000 in
set_option maxHeartbeats 3200000 in
theorem under_impl (w : World) (n m : Nat) (hn : 1 ≤ n) (hm : 1 ≤ m) (hm9 : m ≤ 12) (v : Value) (ws : List ByteArray) (W : WS ws) (R : Row w v ws) (hmax : ws.length ≤ 500) (s : ByteArray) (hs0 : 0 < s.size) (hs10 : s.size ≤ 10) :
    Calls Try.prog 35 #[.int .i64 n, .int .i64 m, v, .string s] w (ImpP w (mapOf false ws ws.length) (fun u => begB (strB u) s)) := by
  have hcv := conv_run
  have hen : ∀ args w, (callFunc 58 args).run Try.prog w = .ok (.enter 58 args) w := fun args w => by kernel_rfl
  obtain ⟨w0, hw0⟩ : ∃ w0, w.alloc (.cells #[.slice none 0 0] 23) = w0 := ⟨_, rfl⟩
  have hs0' : w0.heap.size = w.heap.size + 1 := by rw [← hw0]; simp
  have hb0 : w0.heap[w.heap.size]? = some (.cells #[.slice none 0 0] 23 (0, 0)) := by rw [← hw0]; exact heap_new w _
  have hT0 : Tch w w0 (fun _ => False) := by rw [← hw0]; exact (Tch.refl w _).alloc _
  have HGR := Lib.hid (grow_any w0 n m hn hm hm9 v ws W (R.tchF hT0) (by omega))
  have HW0 := Lib.hid hw0
  have H0 := Lib.hid (⟨hs0', hb0, hT0, hen⟩ : _ ∧ _ ∧ _ ∧ _)
  clear R W hw0 hs0' hb0 hT0 hen
  go_enter Try.func35, Try.ntmps35
  go_wp2_with fail
  rw [HW0.out]
  refine HGR.out.mono ?_
  rintro e w1 ⟨t, rfl, O, rp, T, hO, hT⟩
  obtain ⟨N, nd, wd, S, sh, A, L⟩ := T
  have hk := conv_key w1 s
  have hTc := conv_tch w1 s (fun _ => False)
  have hcs := conv_size w1 s
  have hsz := hT.size
  have hz := H0.out.1
  have hO' : ∀ k, O k → w.heap.size + 1 ≤ k := fun k hk => by have := hO k hk; omega
  have hbo : (convW w1 s).heap[w.heap.size]? = some (.cells #[.slice none 0 0] 23 (0, 0)) := by
    rw [hTc.keep _ (by omega) (fun h => h), hT.keep _ (by omega) (fun h => h)]
    exact H0.out.2.1
  have hvs := visitSub_any (F := 58) (binds := #[.pointer (some ⟨w.heap.size, 0, none⟩)]) (base := w.heap.size) (skip := fun _ => false) (w := convW w1 s) w1.heap.size
    (fun W1 hT1 => visG_plain (O := O) (base := w.heap.size) H0.out.2.2.2 (fun bo base bad acc w K b o c it h1 h2 h3 h4 h5 h6 => vUnder_call bo base bad acc w K b o c it h1 h2 h3 h4 h5 h6) (bo := w.heap.size) ((hT1.keep _ (lt_of_heap hbo) (by omega)).trans hbo) (Nat.le_refl _) (fun h => by have := hO' _ h; omega))
    (hTc.ta A (fun _ _ h => h)) (fun k hk => by have := hO' k hk; omega) (by omega) ⟨ws.map keyOf, by rw [List.length_map]; exact hmax, fun u hu => by
      obtain ⟨x, hx, e⟩ := (map_iff ws u).1 hu
      exact List.mem_map.2 ⟨x, hx, e⟩⟩ (grownCap w1 s.size 0 5) (keyOf s) hk (by rw [keyOf_len]; exact hs0) (by rw [keyOf_len]; exact hs10) (fun h => Nat.lt_irrefl _ (A.lt _ h)) (by omega)
  rw [keyOf_len] at hvs
  have HVS := Lib.hid hvs
  have hTw : Tch w (convW w1 s) (fun _ => False) := (H0.out.2.2.1.trans hT (fun _ _ h => h)).trans hTc (fun _ _ h => h)
  have HTW := Lib.hid hTw
  have HBO := Lib.hid hbo
  have HA := Lib.hid A
  clear hvs hbo hk hTc hcs hsz A L hT hO hO' hTw hz
  go_wp2_with fail
  refine HVS.out.mono ?_
  rintro e w2 ⟨v9, rfl, hor⟩
  have hres : ∃ v2, w2.heap[w.heap.size]? = some (.cells #[v2] 23 (0, 0)) ∧ ImpP w (mapOf false ws ws.length) (fun u => begB (strB u) s) (.returned v2) w2 := by
    have hbeg : ∀ u, begB (strB u) s = true ↔ keyOf s <+: u := fun u => by unfold begB; rw [key_strB, decide_eq_true_iff]
    rcases hor with ⟨hno, n2, rfl⟩ | ⟨p, hp, hpre, hall, pb, bb, nd', L, A2, ⟨v2, hv2, hR2, hb2⟩, hS, hm2, hT2⟩
    · refine ⟨.slice none 0 0, HBO.out, .slice none 0 0, [], rfl, Kd.R_nil _ _ _ _ _, List.Pairwise.nil, fun u => ⟨fun h => (by cases h), fun ⟨h1, h2⟩ => ?_⟩, HTW.out.drn n2⟩
      obtain ⟨r, hr, e⟩ := HA.out.C.of u h1
      exact absurd (by rw [e]; exact (hbeg u).1 h2) (hno r hr)
    · refine ⟨v2, hv2, v2, L, rfl, Kd.R_mono hR2 (fun _ _ => trivial), hS, fun u => ?_, HTW.out.trans hT2 (fun b hb h => by omega)⟩
      rw [hm2]
      show _ ↔ _ ∧ begB (strB u) s = true
      rw [hbeg]
      constructor
      · rintro ⟨h1, h2, _⟩; exact ⟨h1, hpre.trans h2⟩
      · rintro ⟨h1, h2⟩
        obtain ⟨r, hr, e⟩ := HA.out.C.of u h1
        exact ⟨h1, by rw [← e]; exact hall r hr (by rw [e]; exact h2), fun _ _ _ _ _ => rfl⟩
  obtain ⟨v2, hv2, hP⟩ := hres
  have c0 : w2.cell? ⟨w.heap.size, 0, none⟩ = some v2 := by rw [cell_of_block hv2]; rfl
  have HP : Hid (ImpP w (mapOf false ws ws.length) (fun u => begB (strB u) s) (.returned v2) w2) := hP
  clear hor hv2 hP
  go_wp2_with fail
  go_ret
  exact HP.out

end Go.Proofs.Ytmdbnjepajifpaa
