/- impl.Added: each word's answer. -/
import Derived.Test.YtmdbnjepajifpaaC4
import Derived.Test.YtmdbnjepajifpaaWMore
namespace Go.Proofs.Ytmdbnjepajifpaa
open Go.RowKit Go.Proofs.YtmdbnjepajifpaaW.PrintWords Go.Proofs.YtmdbnjepajifpaaW.PrintLast Go.Proofs.YtmdbnjepajifpaaW.PrintMore

/-- What Insert answers, word by word. -/
def newsOf (ws : List ByteArray) (j : Nat) : List Bool := (List.range j).map (fun i => (mapOf false ws i (keyOf (ws.getD i ByteArray.empty))).isNone)
theorem newsOf_succ (ws : List ByteArray) (j : Nat) {s : ByteArray} (h : ws[j]? = some s) : newsOf ws (j + 1) = newsOf ws j ++ [(mapOf false ws j (keyOf s)).isNone] := by
  unfold newsOf
  rw [List.range_succ, List.map_append]
  simp [List.getD_eq_getElem?_getD, h]

/-- A round: the trie, and the answers so far in a row apart from it. -/
def AddI (w : World) (n : Nat) (ws : List ByteArray) (t j : Nat) (wr : World) (v : Value) : Prop :=
  j ≤ ws.length ∧ ∃ O, GS wr t n j (mapOf false ws j) O ∧ (∀ k, O k → w.heap.size ≤ k) ∧ Tch w wr (fun _ => False) ∧ Kd.R Kd.bool 4 wr w.heap.size (fun k => ¬ O k) v (newsOf ws j)

theorem AddI.put {w wr w2 : World} {n : Nat} {ws : List ByteArray} {t j : Nat} {s : ByteArray} {v : Value} {e : Ending} (hs : ws[j]? = some s) {O : Nat → Prop} (_hG : GS wr t n j (mapOf false ws j) O) (hO : ∀ k, O k → w.heap.size ≤ k) (hT : Tch w wr (fun _ => False))
    (hR : Kd.R Kd.bool 4 wr w.heap.size (fun k => ¬ O k) v (newsOf ws j)) (h : PutG (convW wr s) t n j (mapOf false ws j) O (keyOf s) j false wr.heap.size e w2) :
    e = .returned (.bool (mapOf false ws j (keyOf s)).isNone) ∧ ∃ O', GS w2 t n (j + 1) (mapOf false ws (j + 1)) O' ∧ (∀ k, O' k → w.heap.size ≤ k) ∧ Tch w w2 (fun _ => False) ∧ Kd.R Kd.bool 4 w2 w.heap.size (fun k => ¬ O' k) v (newsOf ws j) := by
  have hts := hT.size
  have hr := grow_round hs hO hts h
  obtain ⟨h1, O', h2, h3, h4⟩ := h
  have hT2 : Tch wr w2 O := (conv_tch wr s _).trans h4 (fun _ _ h => h)
  refine ⟨by simpa using h1, O', by rw [mapOf_succ hs]; exact h2, fun k hk => ?_, hT.trans hT2 (fun b hb h => by have := hO b h; omega), ?_⟩
  · rcases h3 k hk with h | h | h
    · exact hO k h
    · omega
    · have := h.1; rw [conv_size] at this; omega
  · refine Kd.R_mono (Kd.R_step (Kd.R_bound hR) (fun k hk hlt => hT2.keep k hlt hk.1)) (fun k hk ho => ?_)
    rcases h3 k ho with h | h | h
    · exact hk.1 h
    · have := hk.2.2.1; omega
    · have := h.1; have := hk.2.2.1; rw [conv_size] at *; omega

theorem round_putO {wr : World} {n : Nat} {over : Bool} {ws : List ByteArray} {t j : Nat} {s : ByteArray} {O : Nat → Prop} (W : WS ws) (hs : ws[j]? = some s) (G : GS wr t n j (mapOf over ws j) O) :
    GS (convW wr s) t n j (mapOf over ws j) O ∧ KeyAt (convW wr s) wr.heap.size (grownCap wr s.size 0 5) (keyOf s) ∧ ¬ O wr.heap.size ∧ 0 < (keyOf s).length ∧ (keyOf s).length ≤ 10 ∧ (j = 0 → keyOf s = [65]) ∧ (j = 1 → keyOf s = [90]) := by
  have hl := W.len s (List.mem_of_getElem? hs)
  refine ⟨G.tch (conv_tch _ _ _), conv_key wr s, fun h => by have := G.1 _ h; omega, by rw [keyOf_len]; exact hl.1, by rw [keyOf_len]; exact hl.2, ?_, ?_⟩
  · rintro rfl
    have := W.first
    rw [hs] at this
    injection this with this
    rw [this]; rfl
  · rintro rfl
    have := W.second
    rw [hs] at this
    injection this with this
    rw [this]; rfl

theorem tch_of_below {w w1 : World} (h : Below w.heap.size w w1) : Tch w w1 (fun _ => False) := ⟨h.os, h.tape, h.output, h.size, fun k hk _ => h.block k hk⟩

theorem infoBool : (Try.prog.info? 4).map (fun i => (i.zero, i.size, i.bytes)) = some (some (.bool false), 1, 1) := by kernel_rfl

set_option maxRecDepth 100000 in
set_option maxHeartbeats 3200000 in
theorem added_any (w : World) (n m : Nat) (hn : 1 ≤ n) (hm : 1 ≤ m) (hm9 : m ≤ 1000) (v : Value) (ws : List ByteArray) (W : WS ws) (R : Row w v ws) (hmax : ws.length ≤ 1000) :
    Calls Try.prog 20 #[.int .i64 n, .int .i64 m, v] w (fun e w' => ∃ v0 : Value, e = .returned v0 ∧ Kd.R Kd.bool 4 w' w.heap.size (fun _ => True) v0 (newsOf ws ws.length) ∧ Tch w w' (fun _ => False)) := by
  have hne : ws ≠ [] := by rintro rfl; have := W.two; simp at this
  obtain ⟨g, c, rfl, hg, hc, hcell⟩ := R.slice hne
  have HCELL := Lib.hid hcell
  have HW := Lib.hid W
  have HE := Lib.hid (empty_any w n m hn hm hm9)
  have hcv := conv_run
  clear R hcell W hne
  go_enter Try.func20, Try.ntmps20
  go_wp2_with fail
  refine HE.out.mono ?_
  rintro e w1 ⟨t, O, rfl, F, hO, hT⟩
  have HG0 : Hid (AddI w n ws t 0 w1 (.slice none 0 0)) := (⟨Nat.zero_le _, O, ⟨fun k hk => (hO k hk).2, .inl ⟨rfl, rfl, F⟩⟩, fun k hk => (hO k hk).1, hT, Kd.R_nil _ _ _ _ _⟩ : AddI w n ws t 0 w1 (.slice none 0 0))
  clear F hO hT
  go_wp2_with fail
  go_loopw [16, 8] (fun i out wr => ∃ (j : Nat) (v1 : Value), i = .int .i64 (j : Int) ∧ v1 = out ∧ Hid (AddI w n ws t j wr v1)) (fun i _ _ => ws.length - (intOf i).toNat)
  case atStart => exact ⟨0, _, rfl, rfl, HG0⟩
  case round =>
    obtain ⟨j, vo, rfl, rfl, HG⟩ := hrel
    by_cases hj : j < ws.length
    · have hj' : (j : Int) < (ws.length : Int) := by omega
      obtain ⟨s, hs⟩ : ∃ s, ws[j]? = some s := ⟨_, List.getElem?_eq_getElem hj⟩
      obtain ⟨_, O, hG, hO, hT, hR⟩ := HG.out
      have hc0 : wr.cell? ⟨g, j, none⟩ = some (.string s) := by
        rw [World.cell?_of_block (hT.keep g hg (fun h => h))]
        exact HCELL.out j s hs
      obtain ⟨G, hK, hkb, hk0, hk1, h0, h1⟩ := round_putO HW.out hs hG
      have hin := insert_g _ t n j _ O G _ _ _ hK hkb hk0 hk1 (by omega) h0 h1 j
      rw [keyOf_len] at hin
      have HIN := Lib.hid hin
      have HS := Lib.hid hs
      have HO := Lib.hid (⟨hG, hO, hT, hR⟩ : _ ∧ _ ∧ _ ∧ _)
      clear hin hs G hK hkb h0 h1 hG hO hT hR
      go_wp2_with fail
      refine HIN.out.mono ?_
      intro e w2 hP
      have hr := AddI.put HS.out HO.out.1 HO.out.2.1 HO.out.2.2.1 HO.out.2.2.2 hP
      obtain ⟨rfl, O', q1, q2, q3, q4⟩ := hr
      have hBl : Below w.heap.size w w2 := q3.below (fun _ _ h => h.elim) (Nat.le_refl _)
      have hfr : ∀ k, w2.heap.size ≤ k → ¬ O' k := fun k hk ho => by have := q1.1 k ho; omega
      have hlen : ((newsOf ws j).length + 1) * 1 ≤ 140737488355328 := by simp [newsOf]; omega
      have HQ := Lib.hid (⟨q1, q2, q3, q4, hBl, hfr, hlen⟩ : _ ∧ _ ∧ _ ∧ _ ∧ _ ∧ _ ∧ _)
      clear q1 q2 q3 q4 hP hBl hfr hlen
      simp only
      obtain ⟨b, hb⟩ : ∃ b, (mapOf false ws j (keyOf s)).isNone = b := ⟨_, rfl⟩
      rw [hb]
      have HBB := Lib.hid hb
      clear hb
      go_wp2_with (first | ((with_reducible refine gate_builtin (b := .append) (xs := #[.tmp 21, .tmp 28]) rfl ?_); at_builtin; go_loud (refine Kd.R_append Kd.bool (w0 := w) w.heap.size rfl (.tmp 21) (.tmp 28) 33 4 (.bool false) 1 rfl Try.underlying33 infoBool rfl (by decide) (by omega) vo (newsOf ws j) b [.bool b] (fun k => ¬ O' k) (fun _ => False) rfl rfl rfl (fun _ hk => hk.elim) HQ.out.2.2.2.2.2.1 HQ.out.2.2.2.1 HQ.out.2.2.2.2.1 HQ.out.2.2.1.size HQ.out.2.2.2.2.2.2 ?_); intro v1 w3 r1 r2 r3 r4; have HR3 := Lib.hid (⟨r1, r2, r3, r4⟩ : _ ∧ _ ∧ _ ∧ _); clear r1 r2 r3 r4))
      have HRR : Hid (AddI w n ws t (j + 1) w3 v1) := by
        obtain ⟨p1, p2, p3, p4, p5, p6, p7⟩ := HQ.out
        obtain ⟨r1, r2, r3, r4⟩ := HR3.out
        have hT3 : Tch w w3 (fun _ => False) := tch_of_below r2
        refine (⟨by omega, O', p1.later (fun k hk => r3.block k (p1.1 k hk) (fun e => p4.1 k e.symm hk)) r3.size, p2, hT3, ?_⟩ : AddI w n ws t (j + 1) w3 v1)
        rw [newsOf_succ ws j HS.out, HBB.out]
        exact r1
      clear HQ HR3 HIN
      go_roundw
      case rel => exact ⟨j + 1, v1, by go_num, rfl, HRR⟩
      case measure => simp [intOf]; omega
    · have hj' : ¬ (j : Int) < (ws.length : Int) := by omega
      have hjl : j = ws.length := by have := HG.out.1; omega
      subst hjl
      go_wp2_with fail
      go_ret
      obtain ⟨_, O, hG, hO, hT, hR⟩ := HG.out
      exact ⟨_, rfl, Kd.R_mono hR (fun _ _ => trivial), hT⟩

end Go.Proofs.Ytmdbnjepajifpaa
