/- A trie as it grows, whatever the words; impl.Keys of it. -/
import Derived.Test.YtmdbnjepajifpaaGFresh
import Derived.Test.YtmdbnjepajifpaaKeysI
set_option linter.unusedVariables false
set_option linter.unusedSimpArgs false
namespace Go.Proofs.Ytmdbnjepajifpaa
open Go.RowKit Go.Proofs.YtmdbnjepajifpaaW.PrintWords Go.Proofs.YtmdbnjepajifpaaW.PrintLast Go.Proofs.YtmdbnjepajifpaaW.PrintMore

/-- A trie of whatever shape, or one that has just been made. -/
def GT (w : World) (t : Nat) (n : Nat) (M : List UInt8 → Option Int) (O : Nat → Prop) : Prop :=
  (∀ k, O k → k < w.heap.size) ∧ ((M = (fun _ => none) ∧ Fresh w t (n : Int) O) ∨ ∃ (m : Nat) (rp : List UInt8), 1 ≤ m ∧ TrieAt w t 1 (m : Int) rp M O)

def PutY (w : World) (t : Nat) (n : Nat) (M : List UInt8 → Option Int) (O : Nat → Prop) (K : List UInt8) (i : Int) (kb : Nat) (e : Ending) (w' : World) : Prop :=
  e = .returned (.bool (M K).isNone) ∧ ∃ O', GT w' t n (if (M K).isNone then setM M K (some i) else M) O' ∧ (∀ k, O' k → O k ∨ k = kb ∨ (w.heap.size ≤ k ∧ k < w'.heap.size)) ∧ Tch w w' O

theorem PutX.y {w w' : World} {t n m : Nat} {M : List UInt8 → Option Int} {O : Nat → Prop} {K : List UInt8} {i : Int} {kb : Nat} {e : Ending} (hm : 1 ≤ m) (h : PutX w t (m : Int) M O K i kb e w') : PutY w t n M O K i kb e w' := by
  obtain ⟨h1, O', rp', mp', hmp, T, hO, hT⟩ := h
  obtain ⟨m2, rfl, hm2⟩ : ∃ m2 : Nat, mp' = (m2 : Int) ∧ 1 ≤ m2 := by
    rcases hmp with h | h
    · exact ⟨10, h, by omega⟩
    · exact ⟨m, h, hm⟩
  exact ⟨h1, O', ⟨T.lt, .inr ⟨m2, rp', hm2, T⟩⟩, hO, hT⟩

theorem put_y (w : World) (t n : Nat) (hn : 1 ≤ n) (M : List UInt8 → Option Int) (O : Nat → Prop) (G : GT w t n M O) (kb kc : Nat) (K : List UInt8) (hK : KeyAt w kb kc K) (hkb : ¬ O kb) (hk0 : 0 < K.length) (hk1 : K.length ≤ 10) (i : Int) :
    Calls Try.prog 62 #[ptr t, .slice (some ⟨kb, 0, none⟩) K.length kc, .iface 3 (.int .i64 i), .bool false] w (PutY w t n M O K i kb) := by
  obtain ⟨hO, ⟨rfl, F⟩ | ⟨m, rp, hm, T⟩⟩ := G
  · by_cases h : K.length ≤ n
    · refine (put_new w t (n : Int) O F kb kc K hK hk1 (by omega) i false).mono ?_
      rintro e w' ⟨rfl, T, hT⟩
      exact ⟨rfl, _, ⟨T.lt, .inr ⟨n, K, hn, T.lf (by omega)⟩⟩, fun k hk => hk.imp id .inl, hT⟩
    · exact (put_long w t n hn O F kb kc K hK hk1 (by omega) i).mono (fun e w' h => PutX.y hn h)
  · exact (put_gen w t m hm rp M O T kb kc K hK hkb hk0 hk1 i).mono (fun e w' h => PutX.y hm h)

theorem insert_y (w : World) (t n : Nat) (hn : 1 ≤ n) (M : List UInt8 → Option Int) (O : Nat → Prop) (G : GT w t n M O) (kb kc : Nat) (K : List UInt8) (hK : KeyAt w kb kc K) (hkb : ¬ O kb) (hk0 : 0 < K.length) (hk1 : K.length ≤ 10) (i : Int) :
    Calls Try.prog 44 #[ptr t, .slice (some ⟨kb, 0, none⟩) K.length kc, .iface 3 (.int .i64 i)] w (PutY w t n M O K i kb) := by
  have HP := Lib.hid (put_y w t n hn M O G kb kc K hK hkb hk0 hk1 i)
  clear G hK hkb
  go_enter Try.func44, Try.ntmps44
  go_wp2_with fail
  refine HP.out.mono ?_
  rintro e w' ⟨rfl, h⟩
  go_wp2_with fail
  go_ret
  exact ⟨rfl, h⟩

theorem Fresh.later2 {w w1 : World} {t : Nat} {mp : Int} {O : Nat → Prop} (F : Fresh w t mp O) (hT : Tch w w1 (fun _ => False)) (hlt : ∀ k, O k → k < w.heap.size) : Fresh w1 t mp O := F.later (fun k hk => hT.keep k (hlt k hk) (fun h => h))

theorem GT.tch {w w1 : World} {t n : Nat} {M : List UInt8 → Option Int} {O : Nat → Prop} (G : GT w t n M O) (hT : Tch w w1 (fun _ => False)) : GT w1 t n M O := by
  obtain ⟨hO, G⟩ := G
  refine ⟨fun k hk => Nat.lt_of_lt_of_le (hO k hk) hT.size, ?_⟩
  rcases G with ⟨h, F⟩ | ⟨m, rp, hm, T⟩
  · exact .inl ⟨h, F.later2 hT hO⟩
  · exact .inr ⟨m, rp, hm, T.tch hT⟩

/-- The words: none is empty, none is long. -/
def WG (ws : List ByteArray) : Prop := ∀ s, s ∈ ws → 0 < s.size ∧ s.size ≤ 10

/-- The state of the loop. -/
def GrowY (w : World) (n : Nat) (ws : List ByteArray) (t j : Nat) (wr : World) : Prop :=
  j ≤ ws.length ∧ ∃ O, GT wr t n (mapOf false ws j) O ∧ (∀ k, O k → w.heap.size ≤ k) ∧ Tch w wr (fun _ => False)

theorem GrowY.call {w wr : World} {n : Nat} (hn : 1 ≤ n) {ws : List ByteArray} (W : WG ws) {t j : Nat} {s : ByteArray} (hs : ws[j]? = some s) (H : GrowY w n ws t j wr) :
    Calls Try.prog 44 #[ptr t, .slice (some ⟨wr.heap.size, 0, none⟩) s.size (grownCap wr s.size 0 5), .iface 3 (.int .i64 j)] (convW wr s) (fun e w2 => (∃ b, e = .returned (.bool b)) ∧ GrowY w n ws t (j + 1) w2) := by
  obtain ⟨_, O, G, hO, hT⟩ := H
  have hl := W s (List.mem_of_getElem? hs)
  have hin := insert_y _ t n hn _ O (G.tch (conv_tch wr s _)) _ _ (keyOf s) (conv_key wr s) (fun h => Nat.lt_irrefl _ (G.1 _ h)) (by rw [keyOf_len]; exact hl.1) (by rw [keyOf_len]; exact hl.2) j
  rw [keyOf_len] at hin
  refine hin.mono ?_
  rintro e w2 ⟨he, O', G', hO', hT'⟩
  have hlt := (List.getElem?_eq_some_iff.1 hs).1
  have hsz := hT.size
  have hcs := conv_size wr s
  refine ⟨⟨_, he⟩, by omega, O', ?_, fun k hk => ?_, (hT.trans (conv_tch wr s (fun _ => False)) (fun _ _ h => h)).trans hT' (fun b hb h => by have := hO b h; omega)⟩
  · rw [mapOf_succ hs]
    simp only [stepM, Bool.false_or]
    exact G'
  · rcases hO' k hk with h | h | h
    · exact hO k h
    · omega
    · omega

/-- A trie into which the words were put. -/
def GrownY (w : World) (ws : List ByteArray) (t : Nat) (w' : World) : Prop :=
  ∃ O m rp, TrieAt w' t 1 ((m : Nat) : Int) rp (mapOf false ws ws.length) O ∧ (∀ k, O k → w.heap.size ≤ k) ∧ Tch w w' (fun _ => False)

set_option maxHeartbeats 3200000 in
theorem grow_y (w : World) (n m : Nat) (hn : 1 ≤ n) (hm : 1 ≤ m) (hm9 : m ≤ 12) (v : Value) (ws : List ByteArray) (hne : ws ≠ []) (W : WG ws) (R : Row w v ws) (hmax : ws.length ≤ 1000000000) :
    Calls Try.prog 41 #[.int .i64 n, .int .i64 m, v] w (fun e w' => ∃ t, e = .returned (ptr t) ∧ GrownY w ws t w') := by
  obtain ⟨g, c, rfl, hg, hc, hcell⟩ := R.slice hne
  have HCELL := Lib.hid hcell
  have HW := Lib.hid (⟨W, hne⟩ : _ ∧ _)
  have HE := Lib.hid (empty_any w n m hn hm hm9)
  have hcv := conv_run
  clear R hcell W hne
  go_enter Try.func41, Try.ntmps41
  go_wp2_with fail
  refine HE.out.mono ?_
  rintro e w1 ⟨t, O, rfl, F, hO, hT⟩
  have hG0 : GrowY w n ws t 0 w1 := ⟨Nat.zero_le _, O, ⟨fun k hk => (hO k hk).2, .inl ⟨rfl, F⟩⟩, fun k hk => (hO k hk).1, hT⟩
  have HG0 := Lib.hid hG0
  clear F hO hT hG0
  go_wp2_with fail
  go_loopw [15] (fun i wr => ∃ j : Nat, i = .int .i64 (j : Int) ∧ Hid (GrowY w n ws t j wr)) (fun i _ => ws.length - (intOf i).toNat)
  case atStart => exact ⟨0, rfl, HG0⟩
  case round =>
    obtain ⟨j, rfl, HG⟩ := hrel
    by_cases hj : j < ws.length
    · have hj' : (j : Int) < (ws.length : Int) := by omega
      obtain ⟨s, hs⟩ : ∃ s, ws[j]? = some s := ⟨_, List.getElem?_eq_getElem hj⟩
      have hc0 : wr.cell? ⟨g, j, none⟩ = some (.string s) := by
        obtain ⟨_, O, _, _, hT⟩ := HG.out
        rw [World.cell?_of_block (hT.keep g hg (fun h => h))]
        exact HCELL.out j s hs
      have HIN := Lib.hid (HG.out.call hn HW.out.1 hs)
      clear hs
      go_wp2_with fail
      refine HIN.out.mono ?_
      rintro e w2 ⟨⟨b, rfl⟩, hr⟩
      have HR := Lib.hid hr
      clear hr
      go_wp2_with fail
      go_roundw
      case rel => exact ⟨j + 1, by go_num, HR⟩
      case measure => simp [intOf]; omega
    · have hj' : ¬ (j : Int) < (ws.length : Int) := by omega
      have hjl : j = ws.length := by have := HG.out.1; omega
      subst hjl
      go_wp2_with fail
      go_ret
      obtain ⟨_, O, ⟨_, G⟩, hO, hT⟩ := HG.out
      rcases G with ⟨h, _⟩ | ⟨m2, rp, _, T⟩
      · exfalso
        obtain ⟨s, hs⟩ := List.exists_mem_of_ne_nil ws HW.out.2
        exact (map_iff ws (keyOf s)).2 ⟨s, hs, rfl⟩ (by rw [h])
      · exact ⟨t, rfl, O, m2, rp, T, hO, hT⟩

set_option maxRecDepth 100000 in
set_option maxHeartbeats 3200000 in
theorem keys_y (w : World) (n m : Nat) (hn : 1 ≤ n) (hm : 1 ≤ m) (hm9 : m ≤ 12) (v : Value) (ws : List ByteArray) (hne : ws ≠ []) (W : WG ws) (R : Row w v ws) (hmax : ws.length ≤ 500) (vg : Value) (gs : List ByteArray) (RG : Row w vg gs) (G : GO (mapOf false ws ws.length) gs) (hgmax : gs.length ≤ 1000) :
    Calls Try.prog 31 #[.int .i64 n, .int .i64 m, v, vg] w (ImpP w (dropM (mapOf false ws ws.length) gs gs.length) (fun _ => true)) := by
  have HGR := Lib.hid (grow_y w n m hn hm hm9 v ws hne W R (by omega))
  have HG := Lib.hid G
  have HRG := Lib.hid RG
  clear R W RG G
  go_enter Try.func31, Try.ntmps31
  go_wp2_with fail
  refine HGR.out.mono ?_
  rintro e w1 ⟨t, rfl, O, m2, rp, T, hO, hT⟩
  have HD := Lib.hid (drop_any w w1 t _ (by omega) _ rp _ O T hO hT vg gs HG.out HRG.out (by omega))
  clear T hO hT
  go_wp2_with fail
  refine HD.out.mono ?_
  rintro e w2 ⟨rfl, O2, _, T2, hO2, hT2⟩
  obtain ⟨N, nd, wd, S, sh, A, L⟩ := T2
  have HK := Lib.hid (keys_any (base := w.heap.size) A.lax hO2 hT2.size (fin_map ws hmax gs))
  have HT2 := Lib.hid hT2
  clear A L hO2 hT2
  go_wp2_with fail
  refine HK.out.mono ?_
  rintro e w3 ⟨v3, T, rfl, hR, hS, hmem, hT3⟩
  have HP : Hid (ImpP w (dropM (mapOf false ws ws.length) gs gs.length) (fun _ => true) (.returned v3) w3) := (⟨v3, T, rfl, hR, hS, fun u => by rw [hmem]; simp, HT2.out.trans hT3 (fun b hb h => by omega)⟩ : ImpP w (dropM (mapOf false ws ws.length) gs gs.length) (fun _ => true) (.returned v3) w3)
  clear hR hS hmem hT3
  go_wp2_with fail
  go_ret
  exact HP.out

end Go.Proofs.Ytmdbnjepajifpaa
