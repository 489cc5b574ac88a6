/- impl.Keys. -/
import Derived.Test.YtmdbnjepajifpaaVisit
import Derived.Test.YtmdbnjepajifpaaDrops
set_option linter.unusedVariables false
set_option linter.unusedSimpArgs false
namespace Go.Proofs.Ytmdbnjepajifpaa
open Go.RowKit Go.Proofs.YtmdbnjepajifpaaW.PrintWords Go.Proofs.YtmdbnjepajifpaaW.PrintLast Go.Proofs.YtmdbnjepajifpaaW.PrintMore

theorem fin_map (ws : List ByteArray) (h : ws.length ≤ 500) (gs : List ByteArray) : ∃ U : List Wd, U.length ≤ 500 ∧ ∀ u, dropM (mapOf false ws ws.length) gs gs.length u ≠ none → u ∈ U := by
  refine ⟨ws.map keyOf, by rw [List.length_map]; exact h, fun u hu => ?_⟩
  have h1 : mapOf false ws ws.length u ≠ none := by
    unfold dropM at hu
    split at hu
    · exact absurd rfl hu
    · exact hu
  obtain ⟨s, hs, e⟩ := (map_iff ws u).1 h1
  exact List.mem_map.2 ⟨s, hs, e⟩

set_option maxRecDepth 100000 in
set_option maxHeartbeats 3200000 in
theorem keys_impl (w : World) (n m : Nat) (hn : 1 ≤ n) (hm : 1 ≤ m) (hm9 : m ≤ 12) (v : Value) (ws : List ByteArray) (W : WS ws) (R : Row w v ws) (hmax : ws.length ≤ 500) (vg : Value) (gs : List ByteArray) (RG : Row w vg gs) (G : GO (mapOf false ws ws.length) gs) (hgmax : gs.length ≤ 1000) :
    Calls Try.prog 31 #[.int .i64 n, .int .i64 m, v, vg] w (ImpP w (dropM (mapOf false ws ws.length) gs gs.length) (fun _ => true)) := by
  have HGR := Lib.hid (grow_any w n m hn hm hm9 v ws W R (by omega))
  have HG := Lib.hid G
  have HRG := Lib.hid RG
  clear R W RG G
  go_enter Try.func31, Try.ntmps31
  go_wp2_with fail
  refine HGR.out.mono ?_
  rintro e w1 ⟨t, rfl, O, rp, T, hO, hT⟩
  have HD := Lib.hid (drop_any w w1 t _ (by omega) _ rp _ O T hO hT vg gs HG.out HRG.out (by omega))
  clear T hO hT
  go_wp2_with fail
  refine HD.out.mono ?_
  rintro e w2 ⟨rfl, O2, _, T2, hO2, hT2⟩
  obtain ⟨N, nd, wd, S, sh, A, L⟩ := T2
  have HK := Lib.hid (keys_any (base := w.heap.size) A.lax hO2 hT2.size (fin_map ws hmax gs))
  have HT2 := Lib.hid hT2
  clear A L hO2 hT2
  go_wp2_with fail
  refine HK.out.mono ?_
  rintro e w3 ⟨v3, T, rfl, hR, hS, hmem, hT3⟩
  have HP : Hid (ImpP w (dropM (mapOf false ws ws.length) gs gs.length) (fun _ => true) (.returned v3) w3) := (⟨v3, T, rfl, hR, hS, fun u => by rw [hmem]; simp, HT2.out.trans hT3 (fun b hb h => by omega)⟩ : ImpP w (dropM (mapOf false ws ws.length) gs gs.length) (fun _ => true) (.returned v3) w3)
  clear hR hS hmem hT3
  go_wp2_with fail
  go_ret
  exact HP.out

end Go.Proofs.Ytmdbnjepajifpaa
