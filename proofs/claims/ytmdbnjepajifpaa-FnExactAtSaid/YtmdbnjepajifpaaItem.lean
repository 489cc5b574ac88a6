/- Set, Get, Match; impl.item, impl.Latest. -/
import Derived.Test.YtmdbnjepajifpaaC4
namespace Go.Proofs.Ytmdbnjepajifpaa
open Go.RowKit

theorem set_g (w : World) (t : Nat) (mp : Int) (j : Nat) (M : List UInt8 → Option Int) (O : Nat → Prop) (G : GS w t mp j M O) (kb kc : Nat) (K : List UInt8) (hK : KeyAt w kb kc K) (hkb : ¬ O kb)
    (hk0 : 0 < K.length) (hk1 : K.length ≤ 10) (hmp : 1 ≤ mp) (h0 : j = 0 → K = [65]) (h1 : j = 1 → K = [90]) (i : Int) :
    Calls Try.prog 39 #[ptr t, .slice (some ⟨kb, 0, none⟩) K.length kc, .iface 3 (.int .i64 i)] w (fun e w' => e = .returned (.tuple #[]) ∧ PutG w t mp j M O K i true kb (.returned (.bool true)) w') := by
  have HP := Lib.hid (put_g w t mp j M O G kb kc K hK hkb hk0 hk1 hmp h0 h1 i true)
  clear G hK hkb h0 h1
  go_enter Try.func39, Try.ntmps39
  go_wp2_with fail
  refine HP.out.mono ?_
  rintro e w' ⟨rfl, h⟩
  go_wp2_with fail
  refine bodyPost_end (results_none rfl _ _ _) rfl ?_
  exact ⟨rfl, rfl, h⟩

set_option maxHeartbeats 1600000 in
theorem get_any (w : World) (t lf : Nat) (mp : Int) (rp : List UInt8) (M : List UInt8 → Option Int) (O : Nat → Prop) (T : TrieAt w t lf mp rp M O) (kb kc : Nat) (K : List UInt8) (hK : KS w kb 0 K) (hkc : K.length ≤ kc) (hk1 : K.length ≤ 10) :
    Calls Try.prog 63 #[ptr t, .slice (some ⟨kb, 0, none⟩) K.length kc] w (RetD (itv (M K)) w) := by
  obtain ⟨N, nd, wd, S, sh, A, L⟩ := T
  have HF := Lib.hid (find_any w A.T kb 0 kc K hK hkc hk1)
  have HA := Lib.hid A
  clear A hK
  go_enter Try.func63, Try.ntmps63
  go_wp2_with fail
  refine HF.out.mono ?_
  rintro e w' ⟨P, q, fnd, lo, rfl, ⟨n, rfl⟩, hno, hyes⟩
  cases fnd with
  | false =>
    have hM : M K = none := by
      by_cases h : M K = none
      · exact h
      · exact absurd (List.prefix_refl K) (no_key HA.out (hno rfl) K h)
    have HM := Lib.hid hM
    clear hno hyes hM
    go_wp2_with fail
    all_goals
      go_ret
      exact retD _ (by rw [HM.out]; rfl) rfl
  | true =>
    obtain ⟨hN, _, _, sb, o', m', rest, rfl, hw, _⟩ := hyes rfl
    clear hno hyes
    have c1 := (HA.out.T.H q hN).c1
    by_cases hr : rest.length = 0
    · have hM : M K = (nd q).it := by
        rw [← HA.out.C.at_ q hN, hw, List.length_eq_zero_iff.1 hr, List.append_nil]
      have hz : ((rest.length : Int) != 0) = false := by rw [bne_eq_false_iff_eq]; omega
      have HM := Lib.hid hM
      clear hM hw
      go_wp2_with fail
      all_goals
        go_ret
        exact retD _ (by rw [HM.out]; rfl) rfl
    · have hM : M K = none := by
        by_cases h : M K = none
        · exact h
        · exfalso
          obtain ⟨p, hp, e⟩ := HA.out.C.of K h
          rename_i hall _
          have := (hall p hp (by rw [e]; exact List.prefix_refl _)).length_le
          rw [hw, e, List.length_append] at this
          omega
      have hz : ((rest.length : Int) != 0) = true := by rw [bne_iff_ne]; omega
      have HM := Lib.hid hM
      clear hM hw
      go_wp2_with fail
      all_goals
        go_ret
        exact retD _ (by rw [HM.out]; rfl) rfl

theorem match_any (w : World) (t lf : Nat) (mp : Int) (rp : List UInt8) (M : List UInt8 → Option Int) (O : Nat → Prop) (T : TrieAt w t lf mp rp M O) (kb kc : Nat) (K : List UInt8) (hK : KS w kb 0 K) (hkc : K.length ≤ kc) (hk1 : K.length ≤ 10) :
    Calls Try.prog 64 #[ptr t, .slice (some ⟨kb, 0, none⟩) K.length kc] w (RetD (.bool (M K).isSome) w) := by
  have HG := Lib.hid (get_any w t lf mp rp M O T kb kc K hK hkc hk1)
  clear T hK
  go_enter Try.func64, Try.ntmps64
  go_wp2_with fail
  refine HG.out.mono ?_
  rintro e w' ⟨rfl, n, rfl⟩
  cases hM : M K with
  | none =>
    have HM := Lib.hid hM
    simp only [itv]
    clear hM
    go_wp2_with fail
    go_ret
    exact retD _ (by rw [HM.out]; rfl) rfl
  | some v =>
    have HM := Lib.hid hM
    simp only [itv]
    clear hM
    go_wp2_with fail
    go_ret
    exact retD _ (by rw [HM.out]; rfl) rfl

theorem ta_int (w : World) (n : Int) : (Instr.typeAssert (.iface 3 (.int .i64 n)) 66 3 true).run Try.prog w = .ok (.tuple #[.int .i64 n, .bool true]) w := by kernel_rfl
theorem ta_nil (w : World) : (Instr.typeAssert .nilIface 66 3 true).run Try.prog w = .ok (.tuple #[.int .i64 0, .bool false]) w := by kernel_rfl

def itemV (x : Option Int) : Value := .tuple #[.int .i64 (x.getD 0), .bool x.isSome]

set_option maxRecDepth 100000 in
set_option maxHeartbeats 1600000 in
theorem item_any (w : World) (t lf : Nat) (mp : Int) (rp : List UInt8) (M : List UInt8 → Option Int) (O : Nat → Prop) (T : TrieAt w t lf mp rp M O) (s : ByteArray) (hs : s.size ≤ 10) :
    Calls Try.prog 40 #[ptr t, .string s] w (fun e w' => e = .returned (itemV (M (keyOf s))) ∧ Tch w w' (fun _ => False)) := by
  have hcv := conv_run
  have ht1 := ta_int
  have ht2 := ta_nil
  have HT := Lib.hid T
  have hg : ∀ W, Tch w W (fun _ => False) → Calls Try.prog 63 #[ptr t, .slice (some ⟨W.heap.size, 0, none⟩) s.size (grownCap W s.size 0 5)] (convW W s) (RetD (itv (M (keyOf s))) (convW W s)) := by
    intro W hW
    have hk := conv_key W s
    have := get_any (convW W s) t lf mp rp M O ((HT.out.tch hW).tch (conv_tch _ _ _)) _ _ (keyOf s) hk.1 hk.2.1 (by rw [keyOf_len]; exact hs)
    rw [keyOf_len] at this
    exact this
  have hm : ∀ W, Tch w W (fun _ => False) → Calls Try.prog 64 #[ptr t, .slice (some ⟨W.heap.size, 0, none⟩) s.size (grownCap W s.size 0 5)] (convW W s) (RetD (.bool (M (keyOf s)).isSome) (convW W s)) := by
    intro W hW
    have hk := conv_key W s
    have := match_any (convW W s) t lf mp rp M O ((HT.out.tch hW).tch (conv_tch _ _ _)) _ _ (keyOf s) hk.1 hk.2.1 (by rw [keyOf_len]; exact hs)
    rw [keyOf_len] at this
    exact this
  have HG := Lib.hid hg
  have HM := Lib.hid hm
  clear hg hm T
  cases hx : M (keyOf s) with
  | none =>
    have HX := Lib.hid hx
    clear hx
    go_enter Try.func40, Try.ntmps40
    go_wp2_with fail
    refine (HG.out w (Tch.refl _ _)).mono ?_
    rw [HX.out]
    simp only [itv]
    rintro e w' ⟨rfl, n, rfl⟩
    have HT1 : Hid (Tch w ((convW w s).drewN n) (fun _ => False)) := (conv_tch w s _).drn n
    go_wp2_with fail
    all_goals
      first | go_ret2 | refine bodyPost_end (results_tmp2 rfl _ _ _) rfl ?_
      exact ⟨rfl, HT1.out⟩
  | some v =>
    have HX := Lib.hid hx
    clear hx
    go_enter Try.func40, Try.ntmps40
    go_wp2_with fail
    refine (HG.out w (Tch.refl _ _)).mono ?_
    rw [HX.out]
    simp only [itv]
    rintro e w' ⟨rfl, n, rfl⟩
    have HT1 : Hid (Tch w ((convW w s).drewN n) (fun _ => False)) := (conv_tch w s _).drn n
    generalize (convW w s).drewN n = W1 at HT1 ⊢
    go_wp2_with fail
    refine (HM.out W1 HT1.out).mono ?_
    rw [HX.out]
    rintro e w' ⟨rfl, n2, rfl⟩
    have HT2 : Hid (Tch w ((convW W1 s).drewN n2) (fun _ => False)) := (HT1.out.trans (conv_tch W1 s _) (fun _ _ h => h)).drn n2
    go_wp2_with fail
    all_goals
      first | go_ret2 | refine bodyPost_end (results_tmp2 rfl _ _ _) rfl ?_
      exact ⟨rfl, HT2.out⟩

set_option maxHeartbeats 3200000 in
theorem latest_any (w : World) (n m : Nat) (hn : 1 ≤ n) (hm : 1 ≤ m) (hm9 : m ≤ 1000) (v : Value) (ws : List ByteArray) (W : WS ws) (R : Row w v ws) (hmax : ws.length ≤ 1000000000) (s : ByteArray) (hs10 : s.size ≤ 10) :
    Calls Try.prog 14 #[.int .i64 n, .int .i64 m, v, .string s] w (fun e w' => e = .returned (itemV (mapOf true ws ws.length (keyOf s))) ∧ Tch w w' (fun _ => False)) := by
  have hne : ws ≠ [] := by rintro rfl; have := W.two; simp at this
  obtain ⟨g, c, rfl, hg, hc, hcell⟩ := R.slice hne
  have HCELL := Lib.hid hcell
  have HW := Lib.hid W
  have HE := Lib.hid (empty_any w n m hn hm hm9)
  have hcv := conv_run
  clear R hcell W hne
  go_enter Try.func14, Try.ntmps14
  go_wp2_with fail
  refine HE.out.mono ?_
  rintro e w1 ⟨t, O, rfl, F, hO, hT⟩
  have HG0 : Hid (GrowI w n true ws t 0 w1) := EmptyP.start F hO hT
  clear F hO hT
  go_wp2_with fail
  go_loopw [18] (fun i wr => ∃ j : Nat, i = .int .i64 (j : Int) ∧ Hid (GrowI w n true ws t j wr)) (fun i _ => ws.length - (intOf i).toNat)
  case atStart => exact ⟨0, rfl, HG0⟩
  case round =>
    obtain ⟨j, rfl, HG⟩ := hrel
    by_cases hj : j < ws.length
    · have hj' : (j : Int) < (ws.length : Int) := by omega
      obtain ⟨s, hs⟩ : ∃ s, ws[j]? = some s := ⟨_, List.getElem?_eq_getElem hj⟩
      have hc0 : wr.cell? ⟨g, j, none⟩ = some (.string s) := by
        obtain ⟨_, O, _, _, hT⟩ := HG.out
        rw [World.cell?_of_block (hT.keep g hg (fun h => h))]
        exact HCELL.out j s hs
      obtain ⟨O, hO, hT, G, hK, hkb, hk0, hk1, h0, h1⟩ := round_put HW.out hn hs HG.out
      have hin := set_g _ t n j _ O G _ _ _ hK hkb hk0 hk1 (by omega) h0 h1 j
      rw [keyOf_len] at hin
      have HIN := Lib.hid hin
      have HS := Lib.hid hs
      have HO := Lib.hid (⟨hO, hT⟩ : _ ∧ _)
      clear hin hs G hK hkb h0 h1 hO hT
      go_wp2_with fail
      refine HIN.out.mono ?_
      rintro e w2 ⟨rfl, hP⟩
      have HR := Lib.hid (GrowI.round HS.out HO.out.1 HO.out.2 hP).2
      clear hP
      go_wp2_with fail
      go_roundw
      case rel => exact ⟨j + 1, by go_num, HR⟩
      case measure => simp [intOf]; omega
    · have hj' : ¬ (j : Int) < (ws.length : Int) := by omega
      have hjl : j = ws.length := by have := HG.out.1; omega
      subst hjl
      obtain ⟨O, rp, T, hO, hT⟩ := GrowI.done HW.out HG.out
      have HI := Lib.hid (item_any wr t 2 10 rp _ O T s hs10)
      have HT := Lib.hid hT
      clear T hO hT
      go_wp2_with fail
      refine HI.out.mono ?_
      unfold itemV
      rintro e w2 ⟨rfl, hT2⟩
      have HT2 := Lib.hid (HT.out.trans hT2 (fun _ _ h => h))
      clear hT2
      go_wp2_with fail
      go_ret2
      exact ⟨rfl, HT2.out⟩

end Go.Proofs.Ytmdbnjepajifpaa
