/- impl.Gone: each deletion's answer; impl.At. -/
import Derived.Test.YtmdbnjepajifpaaDrops
import Derived.Test.YtmdbnjepajifpaaAdded
import Derived.Test.YtmdbnjepajifpaaItem
namespace Go.Proofs.Ytmdbnjepajifpaa
open Go.RowKit Go.Proofs.YtmdbnjepajifpaaW.PrintWords Go.Proofs.YtmdbnjepajifpaaW.PrintLast Go.Proofs.YtmdbnjepajifpaaW.PrintMore

/-- A round: the trie behind j deletions, and the answers so far in a row apart from it. -/
def GoneI (w : World) (t : Nat) (rp : List UInt8) (M : List UInt8 → Option Int) (gs : List ByteArray) (j : Nat) (O : Nat → Prop) (wr : World) (v : Value) : Prop :=
  DropI w t 10 rp M gs j O wr ∧ Kd.R Kd.bool 4 wr w.heap.size (fun k => ¬ O k) v (List.replicate j true)

theorem GoneI.put {w wr w2 : World} {t : Nat} {rp : List UInt8} {M : List UInt8 → Option Int} {gs : List ByteArray} {j : Nat} {O O' : Nat → Prop} {v : Value} (H : GoneI w t rp M gs j O wr v) (_h2 : DropI w t 10 rp M gs (j + 1) O' w2) (hT : Tch wr w2 O) (hO : ∀ k, O' k → O k ∨ wr.heap.size ≤ k) :
    Kd.R Kd.bool 4 w2 w.heap.size (fun k => ¬ O' k) v (List.replicate j true) := by
  refine Kd.R_mono (Kd.R_step (Kd.R_bound H.2) (fun k hk hlt => hT.keep k hlt hk.1)) (fun k hk ho => ?_)
  rcases hO k ho with h | h
  · exact hk.1 h
  · have := hk.2.2.1; omega

theorem Row.slice' {w0 : World} {v : Value} {gs : List ByteArray} (R : Row w0 v gs) : ∃ (g : Option Addr) (c : Nat), v = .slice g gs.length c ∧ ∀ w1, Tch w0 w1 (fun _ => False) → ∀ i s, gs[i]? = some s → ∃ b, g = some ⟨b, 0, none⟩ ∧ w1.cell? ⟨b, i, none⟩ = some (.string s) := by
  rcases R with ⟨rfl, rfl⟩ | ⟨b, c, rfl, h1, h2, h3⟩
  · exact ⟨none, 0, rfl, fun _ _ i s h => by simp at h⟩
  · exact ⟨_, c, rfl, fun w1 hT i s h => ⟨b, rfl, by rw [World.cell?_of_block (hT.keep b h1 (fun h => h))]; exact h3 i s h⟩⟩

set_option maxRecDepth 100000 in
set_option maxHeartbeats 3200000 in
theorem gone_any (w : World) (n m : Nat) (hn : 1 ≤ n) (hm : 1 ≤ m) (hm9 : m ≤ 1000) (v : Value) (ws : List ByteArray) (W : WS ws) (R : Row w v ws) (hmax : ws.length ≤ 1000) (vg : Value) (gs : List ByteArray) (RG : Row w vg gs) (G : GO (mapOf false ws ws.length) gs) (hgmax : gs.length ≤ 1000) :
    Calls Try.prog 23 #[.int .i64 n, .int .i64 m, v, vg] w (fun e w' => ∃ v0 : Value, e = .returned v0 ∧ Kd.R Kd.bool 4 w' w.heap.size (fun _ => True) v0 (List.replicate gs.length true) ∧ Tch w w' (fun _ => False)) := by
  obtain ⟨g, c, rfl, hcell⟩ := RG.slice'
  have HCELL := Lib.hid hcell
  have HG := Lib.hid G
  have HGR := Lib.hid (grow_any w n m hn hm hm9 v ws W R (by omega))
  have hcv := conv_run
  clear R W RG hcell G
  go_enter Try.func23, Try.ntmps23
  go_wp2_with fail
  refine HGR.out.mono ?_
  rintro e w1 ⟨t, rfl, O, rp, T, hO, hT⟩
  have HS : Hid (GoneI w t rp (mapOf false ws ws.length) gs 0 O w1 (.slice none 0 0)) := (⟨DropI.start T (by omega) hO hT, Kd.R_nil _ _ _ _ _⟩ : GoneI w t rp (mapOf false ws ws.length) gs 0 O w1 (.slice none 0 0))
  clear T hO hT
  go_wp2_with fail
  go_loopw [19, 10] (fun i out wr => ∃ (j : Nat) (v1 : Value) (O1 : Nat → Prop), i = .int .i64 (j : Int) ∧ v1 = out ∧ Hid (GoneI w t rp (mapOf false ws ws.length) gs j O1 wr v1)) (fun i _ _ => gs.length - (intOf i).toNat)
  case atStart => exact ⟨0, _, O, rfl, rfl, HS⟩
  case round =>
    obtain ⟨j, vo, O1, rfl, rfl, HI⟩ := hrel
    by_cases hj : j < gs.length
    · have hj' : (j : Int) < (gs.length : Int) := by omega
      obtain ⟨s, hs⟩ : ∃ s, gs[j]? = some s := ⟨_, List.getElem?_eq_getElem hj⟩
      obtain ⟨b, rfl, hc0⟩ := HCELL.out wr HI.out.1.2.2.2 j s hs
      have HD := Lib.hid (drop_round HG.out HI.out.1 hs)
      clear hs
      go_wp2_with fail
      refine HD.out.mono ?_
      rintro e w2 ⟨rfl, O2, hI, hT2, hO2⟩
      have hR2 := HI.out.put hI hT2 hO2
      have hBl : Below w.heap.size w w2 := hI.2.2.2.below (fun _ _ h => h.elim) (Nat.le_refl _)
      have hfr : ∀ k, w2.heap.size ≤ k → ¬ O2 k := fun k hk ho => by have := hI.2.1.lt k ho; omega
      have hlen : ((List.replicate j true).length + 1) * 1 ≤ 140737488355328 := by simp; omega
      have HQ := Lib.hid (⟨hI, hR2, hBl, hfr, hlen⟩ : _ ∧ _ ∧ _ ∧ _ ∧ _)
      clear hI hT2 hO2 hR2 hBl hfr hlen
      go_wp2_with (first | ((with_reducible refine gate_builtin (b := .append) (xs := #[.tmp 23, .tmp 28]) rfl ?_); at_builtin; go_loud (refine Kd.R_append Kd.bool (w0 := w) w.heap.size rfl (.tmp 23) (.tmp 28) 33 4 (.bool false) 1 rfl Try.underlying33 infoBool rfl (by decide) (by omega) vo (List.replicate j true) true [.bool true] (fun k => ¬ O2 k) (fun _ => False) rfl rfl rfl (fun _ hk => hk.elim) HQ.out.2.2.2.1 HQ.out.2.1 HQ.out.2.2.1 HQ.out.1.2.2.2.size HQ.out.2.2.2.2 ?_); intro v1 w3 r1 r2 r3 r4; have HR3 := Lib.hid (⟨r1, r2, r3, r4⟩ : _ ∧ _ ∧ _ ∧ _); clear r1 r2 r3 r4))
      have HRR : Hid (GoneI w t rp (mapOf false ws ws.length) gs (j + 1) O2 w3 v1) := by
        obtain ⟨p1, p2, p3, p4, p5⟩ := HQ.out
        obtain ⟨r1, r2, r3, r4⟩ := HR3.out
        have hT3 : Tch w w3 (fun _ => False) := tch_of_below r2
        refine (⟨⟨p1.1, p1.2.1.later (fun k hk => r3.block k (p1.2.1.lt k hk) (fun e => p2.1 k e.symm hk)) r3.size, p1.2.2.1, hT3⟩, ?_⟩ : GoneI w t rp (mapOf false ws ws.length) gs (j + 1) O2 w3 v1)
        rw [List.replicate_succ']
        exact r1
      clear HQ HR3 HD
      go_roundw
      case rel => exact ⟨j + 1, v1, O2, by go_num, rfl, HRR⟩
      case measure => simp [intOf]; omega
    · have hj' : ¬ (j : Int) < (gs.length : Int) := by omega
      have hjl : j = gs.length := by have := HI.out.1.1; omega
      subst hjl
      go_wp2_with fail
      go_ret
      exact ⟨_, rfl, Kd.R_mono HI.out.2 (fun _ _ => trivial), HI.out.1.2.2.2⟩

set_option maxRecDepth 100000 in
set_option maxHeartbeats 3200000 in
theorem at_any (w : World) (n m : Nat) (hn : 1 ≤ n) (hm : 1 ≤ m) (hm9 : m ≤ 1000) (v : Value) (ws : List ByteArray) (W : WS ws) (R : Row w v ws) (hmax : ws.length ≤ 1000) (vg : Value) (gs : List ByteArray) (RG : Row w vg gs) (G : GO (mapOf false ws ws.length) gs) (hgmax : gs.length ≤ 1000) (s : ByteArray) (hs10 : s.size ≤ 10) :
    Calls Try.prog 25 #[.int .i64 n, .int .i64 m, v, vg, .string s] w (fun e w' => e = .returned (itemV (dropM (mapOf false ws ws.length) gs gs.length (keyOf s))) ∧ Tch w w' (fun _ => False)) := by
  have HGR := Lib.hid (grow_any w n m hn hm hm9 v ws W R (by omega))
  have HRG := Lib.hid RG
  have HG := Lib.hid G
  clear R W RG G
  go_enter Try.func25, Try.ntmps25
  go_wp2_with fail
  refine HGR.out.mono ?_
  rintro e w1 ⟨t, rfl, O, rp, T, hO, hT⟩
  have HD := Lib.hid (drop_any w w1 t 2 (by omega) 10 rp _ O T hO hT vg gs HG.out HRG.out (by omega))
  clear T hO hT
  go_wp2_with fail
  refine HD.out.mono ?_
  rintro e w2 ⟨rfl, O2, hI⟩
  have HI := Lib.hid (item_any w2 t 1 10 rp _ O2 hI.2.1 s hs10)
  have HT := Lib.hid hI.2.2.2
  clear hI
  go_wp2_with fail
  refine HI.out.mono ?_
  unfold itemV
  rintro e w3 ⟨rfl, hT3⟩
  have HT3 := Lib.hid (HT.out.trans hT3 (fun _ _ h => h))
  clear hT3
  go_wp2_with fail
  go_ret2
  exact ⟨rfl, HT3.out⟩

end Go.Proofs.Ytmdbnjepajifpaa
