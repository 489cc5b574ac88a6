/- impl.grow, impl.item, impl.Has, impl.Latest. -/
import Derived.Test.YtmdbnjepajifpaaEmpty
namespace Go.Proofs.Ytmdbnjepajifpaa
open Go.RowKit

/-- A trie into which the words were put. -/
def Grown (w : World) (over : Bool) (ws : List ByteArray) (t : Nat) (w' : World) : Prop :=
  ∃ O rp, TrieAt w' t 2 10 rp (mapOf over ws ws.length) O ∧ (∀ k, O k → w.heap.size ≤ k) ∧ Tch w w' (fun _ => False)

def GrowI (w : World) (n : Nat) (over : Bool) (ws : List ByteArray) (t j : Nat) (wr : World) : Prop :=
  j ≤ ws.length ∧ ∃ O, GS wr t n j (mapOf over ws j) O ∧ (∀ k, O k → w.heap.size ≤ k) ∧ Tch w wr (fun _ => False)

theorem EmptyP.start {w w' : World} {n : Nat} {over : Bool} {ws : List ByteArray} {t : Nat} {O : Nat → Prop} (F : Fresh w' t n O) (hO : ∀ k, O k → w.heap.size ≤ k ∧ k < w'.heap.size) (hT : Tch w w' (fun _ => False)) : GrowI w n over ws t 0 w' :=
  ⟨Nat.zero_le _, O, ⟨fun k hk => (hO k hk).2, .inl ⟨rfl, rfl, F⟩⟩, fun k hk => (hO k hk).1, hT⟩

theorem GrowI.round {w w' wr : World} {n : Nat} {over : Bool} {ws : List ByteArray} {t j : Nat} {s : ByteArray} {e : Ending} {O : Nat → Prop} (hs : ws[j]? = some s) (hO : ∀ k, O k → w.heap.size ≤ k) (hT : Tch w wr (fun _ => False))
    (h : PutG (convW wr s) t n j (mapOf over ws j) O (keyOf s) j over wr.heap.size e w') : e = .returned (.bool (over || (mapOf over ws j (keyOf s)).isNone)) ∧ GrowI w n over ws t (j + 1) w' := by
  obtain ⟨h1, O', h2, h3, h4⟩ := grow_round hs hO hT.size h
  have := (List.getElem?_eq_some_iff.1 hs).1
  exact ⟨h1, by omega, O', h2, h3, hT.trans h4 (fun b hb h => by omega)⟩

theorem GrowI.done {w wr : World} {n : Nat} {over : Bool} {ws : List ByteArray} {t : Nat} (W : WS ws) (h : GrowI w n over ws t ws.length wr) : Grown w over ws t wr := by
  obtain ⟨_, O, ⟨_, G⟩, hO, hT⟩ := h
  have := W.two
  rcases G with ⟨h1, _⟩ | ⟨h1, _⟩ | ⟨_, rp, T⟩
  · omega
  · omega
  · exact ⟨O, rp, T, hO, hT⟩

/-- The call of Insert or Set in a round. -/
theorem round_put {w wr : World} {n : Nat} {over : Bool} {ws : List ByteArray} {t j : Nat} {s : ByteArray} (W : WS ws) (hn : 1 ≤ n) (hs : ws[j]? = some s) (h : GrowI w n over ws t j wr) :
    ∃ O, (∀ k, O k → w.heap.size ≤ k) ∧ Tch w wr (fun _ => False) ∧ GS (convW wr s) t n j (mapOf over ws j) O ∧ KeyAt (convW wr s) wr.heap.size (grownCap wr s.size 0 5) (keyOf s) ∧ ¬ O wr.heap.size ∧ 0 < (keyOf s).length ∧ (keyOf s).length ≤ 10 ∧ (j = 0 → keyOf s = [65]) ∧ (j = 1 → keyOf s = [90]) := by
  obtain ⟨h1, O, G, hO, hT⟩ := h
  have hl := W.len s (List.mem_of_getElem? hs)
  refine ⟨O, hO, hT, G.tch (conv_tch _ _ _), conv_key wr s, fun h => by have := G.1 _ h; omega, by rw [keyOf_len]; exact hl.1, by rw [keyOf_len]; exact hl.2, ?_, ?_⟩
  · rintro rfl
    have := W.first
    rw [hs] at this
    injection this with this
    rw [this]; rfl
  · rintro rfl
    have := W.second
    rw [hs] at this
    injection this with this
    rw [this]; rfl

theorem Row.slice {w : World} {v : Value} {ws : List ByteArray} (h : Row w v ws) (hne : ws ≠ []) : ∃ g c, v = .slice (some ⟨g, 0, none⟩) ws.length c ∧ g < w.heap.size ∧ ws.length ≤ c ∧ ∀ i s, ws[i]? = some s → w.cell? ⟨g, i, none⟩ = some (.string s) := by
  rcases h with ⟨_, h⟩ | h
  · exact absurd h hne
  · exact h

set_option maxHeartbeats 3200000 in
theorem grow_any (w : World) (n m : Nat) (hn : 1 ≤ n) (hm : 1 ≤ m) (hm9 : m ≤ 1000) (v : Value) (ws : List ByteArray) (W : WS ws) (R : Row w v ws) (hmax : ws.length ≤ 1000000000) :
    Calls Try.prog 41 #[.int .i64 n, .int .i64 m, v] w (fun e w' => ∃ t, e = .returned (ptr t) ∧ Grown w false ws t w') := by
  have hne : ws ≠ [] := by rintro rfl; have := W.two; simp at this
  obtain ⟨g, c, rfl, hg, hc, hcell⟩ := R.slice hne
  have HCELL := Lib.hid hcell
  have HW := Lib.hid W
  have HE := Lib.hid (empty_any w n m hn hm hm9)
  have hcv := conv_run
  clear R hcell W hne
  go_enter Try.func41, Try.ntmps41
  go_wp2_with fail
  refine HE.out.mono ?_
  rintro e w1 ⟨t, O, rfl, F, hO, hT⟩
  have HG0 : Hid (GrowI w n false ws t 0 w1) := EmptyP.start F hO hT
  clear F hO hT
  go_wp2_with fail
  go_loopw [15] (fun i wr => ∃ j : Nat, i = .int .i64 (j : Int) ∧ Hid (GrowI w n false ws t j wr)) (fun i _ => ws.length - (intOf i).toNat)
  case atStart => exact ⟨0, rfl, HG0⟩
  case round =>
    obtain ⟨j, rfl, HG⟩ := hrel
    by_cases hj : j < ws.length
    · have hj' : (j : Int) < (ws.length : Int) := by omega
      obtain ⟨s, hs⟩ : ∃ s, ws[j]? = some s := ⟨_, List.getElem?_eq_getElem hj⟩
      have hc0 : wr.cell? ⟨g, j, none⟩ = some (.string s) := by
        obtain ⟨_, O, _, _, hT⟩ := HG.out
        rw [World.cell?_of_block (hT.keep g hg (fun h => h))]
        exact HCELL.out j s hs
      obtain ⟨O, hO, hT, G, hK, hkb, hk0, hk1, h0, h1⟩ := round_put HW.out hn hs HG.out
      have hin := insert_g _ t n j _ O G _ _ _ hK hkb hk0 hk1 (by omega) h0 h1 j
      rw [keyOf_len] at hin
      have HIN := Lib.hid hin
      have HS := Lib.hid hs
      have HO := Lib.hid (⟨hO, hT⟩ : _ ∧ _)
      clear hin hs G hK hkb h0 h1 hO hT
      go_wp2_with fail
      refine HIN.out.mono ?_
      intro e w2 hP
      have hr := GrowI.round HS.out HO.out.1 HO.out.2 hP
      obtain ⟨rfl, hr⟩ := hr
      have HR := Lib.hid hr
      clear hr hP
      go_wp2_with fail
      go_roundw
      case rel => exact ⟨j + 1, by go_num, HR⟩
      case measure => simp [intOf]; omega
    · have hj' : ¬ (j : Int) < (ws.length : Int) := by omega
      have hjl : j = ws.length := by have := HG.out.1; omega
      subst hjl
      go_wp2_with fail
      go_ret
      exact ⟨t, rfl, GrowI.done HW.out HG.out⟩

end Go.Proofs.Ytmdbnjepajifpaa
