/- impl.item, impl.Has, impl.Latest. -/
import Derived.Test.YtmdbnjepajifpaaGrow
namespace Go.Proofs.Ytmdbnjepajifpaa
open Go.RowKit

theorem ta_int (w : World) (n : Int) : (Instr.typeAssert (.iface 3 (.int .i64 n)) 66 3 true).run Try.prog w = .ok (.tuple #[.int .i64 n, .bool true]) w := by kernel_rfl
theorem ta_nil (w : World) : (Instr.typeAssert .nilIface 66 3 true).run Try.prog w = .ok (.tuple #[.int .i64 0, .bool false]) w := by kernel_rfl

def itemV (x : Option Int) : Value := .tuple #[.int .i64 (x.getD 0), .bool x.isSome]

set_option maxRecDepth 100000 in
set_option maxHeartbeats 1600000 in
theorem item_any (w : World) (t lf : Nat) (mp : Int) (rp : List UInt8) (M : List UInt8 → Option Int) (O : Nat → Prop) (T : TrieAt w t lf mp rp M O) (s : ByteArray) (hs : s.size ≤ 10) :
    Calls Try.prog 40 #[ptr t, .string s] w (fun e w' => e = .returned (itemV (M (keyOf s))) ∧ Tch w w' (fun _ => False)) := by
  have hcv := conv_run
  have ht1 := ta_int
  have ht2 := ta_nil
  have HT := Lib.hid T
  have hg : ∀ W, Tch w W (fun _ => False) → Calls Try.prog 63 #[ptr t, .slice (some ⟨W.heap.size, 0, none⟩) s.size (grownCap W s.size 0 5)] (convW W s) (RetD (itv (M (keyOf s))) (convW W s)) := by
    intro W hW
    have hk := conv_key W s
    have := get_any (convW W s) t lf mp rp M O ((HT.out.tch hW).tch (conv_tch _ _ _)) _ _ (keyOf s) hk.1 hk.2.1 (by rw [keyOf_len]; exact hs)
    rw [keyOf_len] at this
    exact this
  have hm : ∀ W, Tch w W (fun _ => False) → Calls Try.prog 64 #[ptr t, .slice (some ⟨W.heap.size, 0, none⟩) s.size (grownCap W s.size 0 5)] (convW W s) (RetD (.bool (M (keyOf s)).isSome) (convW W s)) := by
    intro W hW
    have hk := conv_key W s
    have := match_any (convW W s) t lf mp rp M O ((HT.out.tch hW).tch (conv_tch _ _ _)) _ _ (keyOf s) hk.1 hk.2.1 (by rw [keyOf_len]; exact hs)
    rw [keyOf_len] at this
    exact this
  have HG := Lib.hid hg
  have HM := Lib.hid hm
  clear hg hm T
  cases hx : M (keyOf s) with
  | none =>
    have HX := Lib.hid hx
    clear hx
    go_enter Try.func40, Try.ntmps40
    go_wp2_with fail
    refine (HG.out w (Tch.refl _ _)).mono ?_
    rw [HX.out]
    simp only [itv]
    rintro e w' ⟨rfl, n, rfl⟩
    have HT1 : Hid (Tch w ((convW w s).drewN n) (fun _ => False)) := (conv_tch w s _).drn n
    go_wp2_with fail
    all_goals
      first | go_ret2 | refine bodyPost_end (results_tmp2 rfl _ _ _) rfl ?_
      exact ⟨rfl, HT1.out⟩
  | some v =>
    have HX := Lib.hid hx
    clear hx
    go_enter Try.func40, Try.ntmps40
    go_wp2_with fail
    refine (HG.out w (Tch.refl _ _)).mono ?_
    rw [HX.out]
    simp only [itv]
    rintro e w' ⟨rfl, n, rfl⟩
    have HT1 : Hid (Tch w ((convW w s).drewN n) (fun _ => False)) := (conv_tch w s _).drn n
    generalize (convW w s).drewN n = W1 at HT1 ⊢
    go_wp2_with fail
    refine (HM.out W1 HT1.out).mono ?_
    rw [HX.out]
    rintro e w' ⟨rfl, n2, rfl⟩
    have HT2 : Hid (Tch w ((convW W1 s).drewN n2) (fun _ => False)) := (HT1.out.trans (conv_tch W1 s _) (fun _ _ h => h)).drn n2
    go_wp2_with fail
    all_goals
      first | go_ret2 | refine bodyPost_end (results_tmp2 rfl _ _ _) rfl ?_
      exact ⟨rfl, HT2.out⟩

/-- impl.Has. -/
theorem has_any (w : World) (n m : Nat) (hn : 1 ≤ n) (hm : 1 ≤ m) (hm9 : m ≤ 1000) (v : Value) (ws : List ByteArray) (W : WS ws) (R : Row w v ws) (hmax : ws.length ≤ 1000000000) (s : ByteArray) (hs : s.size ≤ 10) :
    Calls Try.prog 18 #[.int .i64 n, .int .i64 m, v, .string s] w (fun e w' => ∃ b, e = .returned (.bool b) ∧ (b = true ↔ ∃ k, mapOf false ws ws.length k ≠ none ∧ keyOf s <+: k) ∧ Tch w w' (fun _ => False)) := by
  have hcv := conv_run
  have HG := Lib.hid (grow_any w n m hn hm hm9 v ws W R hmax)
  clear W R
  go_enter Try.func18, Try.ntmps18
  go_wp2_with fail
  refine HG.out.mono ?_
  rintro e w1 ⟨t, rfl, O, rp, T, hO, hT⟩
  have hk := conv_key w1 s
  have hms := matchSub_any (convW w1 s) t 2 (by omega) 10 rp _ O (T.tch (conv_tch _ _ _)) _ _ (keyOf s) hk.1 hk.2.1 (by rw [keyOf_len]; exact hs)
  rw [keyOf_len] at hms
  have HMS := Lib.hid hms
  have HT := Lib.hid hT
  clear hms hk T hO hT
  go_wp2_with fail
  refine HMS.out.mono ?_
  rintro e w2 ⟨b, ⟨rfl, n2, rfl⟩, hb⟩
  have HB := Lib.hid hb
  clear hb
  go_wp2_with fail
  go_ret
  exact ⟨b, rfl, HB.out, (HT.out.trans (conv_tch w1 s _) (fun _ _ h => h)).drn n2⟩

set_option maxHeartbeats 3200000 in
theorem latest_any (w : World) (n m : Nat) (hn : 1 ≤ n) (hm : 1 ≤ m) (hm9 : m ≤ 1000) (v : Value) (ws : List ByteArray) (W : WS ws) (R : Row w v ws) (hmax : ws.length ≤ 1000000000) (s : ByteArray) (hs10 : s.size ≤ 10) :
    Calls Try.prog 14 #[.int .i64 n, .int .i64 m, v, .string s] w (fun e w' => e = .returned (itemV (mapOf true ws ws.length (keyOf s))) ∧ Tch w w' (fun _ => False)) := by
  have hne : ws ≠ [] := by rintro rfl; have := W.two; simp at this
  obtain ⟨g, c, rfl, hg, hc, hcell⟩ := R.slice hne
  have HCELL := Lib.hid hcell
  have HW := Lib.hid W
  have HE := Lib.hid (empty_any w n m hn hm hm9)
  have hcv := conv_run
  clear R hcell W hne
  go_enter Try.func14, Try.ntmps14
  go_wp2_with fail
  refine HE.out.mono ?_
  rintro e w1 ⟨t, O, rfl, F, hO, hT⟩
  have HG0 : Hid (GrowI w n true ws t 0 w1) := EmptyP.start F hO hT
  clear F hO hT
  go_wp2_with fail
  go_loopw [18] (fun i wr => ∃ j : Nat, i = .int .i64 (j : Int) ∧ Hid (GrowI w n true ws t j wr)) (fun i _ => ws.length - (intOf i).toNat)
  case atStart => exact ⟨0, rfl, HG0⟩
  case round =>
    obtain ⟨j, rfl, HG⟩ := hrel
    by_cases hj : j < ws.length
    · have hj' : (j : Int) < (ws.length : Int) := by omega
      obtain ⟨s, hs⟩ : ∃ s, ws[j]? = some s := ⟨_, List.getElem?_eq_getElem hj⟩
      have hc0 : wr.cell? ⟨g, j, none⟩ = some (.string s) := by
        obtain ⟨_, O, _, _, hT⟩ := HG.out
        rw [World.cell?_of_block (hT.keep g hg (fun h => h))]
        exact HCELL.out j s hs
      obtain ⟨O, hO, hT, G, hK, hkb, hk0, hk1, h0, h1⟩ := round_put HW.out hn hs HG.out
      have hin := set_g _ t n j _ O G _ _ _ hK hkb hk0 hk1 (by omega) h0 h1 j
      rw [keyOf_len] at hin
      have HIN := Lib.hid hin
      have HS := Lib.hid hs
      have HO := Lib.hid (⟨hO, hT⟩ : _ ∧ _)
      clear hin hs G hK hkb h0 h1 hO hT
      go_wp2_with fail
      refine HIN.out.mono ?_
      rintro e w2 ⟨rfl, hP⟩
      have HR := Lib.hid (GrowI.round HS.out HO.out.1 HO.out.2 hP).2
      clear hP
      go_wp2_with fail
      go_roundw
      case rel => exact ⟨j + 1, by go_num, HR⟩
      case measure => simp [intOf]; omega
    · have hj' : ¬ (j : Int) < (ws.length : Int) := by omega
      have hjl : j = ws.length := by have := HG.out.1; omega
      subst hjl
      obtain ⟨O, rp, T, hO, hT⟩ := GrowI.done HW.out HG.out
      have HI := Lib.hid (item_any wr t 2 10 rp _ O T s hs10)
      have HT := Lib.hid hT
      clear T hO hT
      go_wp2_with fail
      refine HI.out.mono ?_
      unfold itemV
      rintro e w2 ⟨rfl, hT2⟩
      have HT2 := Lib.hid (HT.out.trans hT2 (fun _ _ h => h))
      clear hT2
      go_wp2_with fail
      go_ret2
      exact ⟨rfl, HT2.out⟩

end Go.Proofs.Ytmdbnjepajifpaa
