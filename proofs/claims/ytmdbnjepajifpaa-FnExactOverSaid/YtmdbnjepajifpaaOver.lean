/- impl.Over. -/
import Derived.Test.YtmdbnjepajifpaaVPref
namespace Go.Proofs.Ytmdbnjepajifpaa
open Go.RowKit Go.Proofs.YtmdbnjepajifpaaW.PrintWords Go.Proofs.YtmdbnjepajifpaaW.PrintLast Go.Proofs.YtmdbnjepajifpaaW.PrintMore

set_option maxRecDepth 100000 in
set_option maxHeartbeats 3200000 in
theorem over_impl (w : World) (n m : Nat) (hn : 1 ≤ n) (hm : 1 ≤ m) (hm9 : m ≤ 1000) (v : Value) (ws : List ByteArray) (W : WS ws) (R : Row w v ws) (hmax : ws.length ≤ 1000) (s : ByteArray) (hs0 : 0 < s.size) (hs10 : s.size ≤ 10) :
    Calls Try.prog 29 #[.int .i64 n, .int .i64 m, v, .string s] w (ImpP w (mapOf false ws ws.length) (fun u => begB s (strB u))) := by
  have hcv := conv_run
  obtain ⟨w0, hw0⟩ : ∃ w0, w.alloc (.cells #[.slice none 0 0] 23) = w0 := ⟨_, rfl⟩
  have hs0' : w0.heap.size = w.heap.size + 1 := by rw [← hw0]; simp
  have hb0 : w0.heap[w.heap.size]? = some (.cells #[.slice none 0 0] 23 (0, 0)) := by rw [← hw0]; exact heap_new w _
  have hT0 : Tch w w0 (fun _ => False) := by rw [← hw0]; exact (Tch.refl w _).alloc _
  have HGR := Lib.hid (grow_any w0 n m hn hm hm9 v ws W (R.tchF hT0) (by omega))
  have HW0 := Lib.hid hw0
  have H0 := Lib.hid (⟨hs0', hb0, hT0⟩ : _ ∧ _ ∧ _)
  clear R W hw0 hs0' hb0 hT0
  go_enter Try.func29, Try.ntmps29
  go_wp2_with fail
  rw [HW0.out]
  refine HGR.out.mono ?_
  rintro e w1 ⟨t, rfl, O, rp, T, hO, hT⟩
  obtain ⟨N, nd, wd, S, sh, A, L⟩ := T
  have hk := conv_key w1 s
  have hTc := conv_tch w1 s (fun _ => False)
  have hcs := conv_size w1 s
  have hsz := hT.size
  have hbo : (convW w1 s).heap[w.heap.size]? = some (.cells #[.slice none 0 0] 23 (0, 0)) := by
    rw [hTc.keep _ (by have := H0.out.1; omega) (fun h => h), hT.keep _ (by have := H0.out.1; omega) (fun h => h)]
    exact H0.out.2.1
  have hV : VS w.heap.size w.heap.size (badK O w1.heap.size) [] (convW w1 s) := by
    refine ⟨_, hbo, Kd.R_nil _ _ _ _ _, fun h => ?_⟩
    rcases h with h | h
    · have := hO _ h; have := H0.out.1; omega
    · have := H0.out.1; omega
  have hvp := visitPrefixes_any (convW w1 s) (hTc.ta A (fun _ _ h => h)) w1.heap.size (grownCap w1 s.size 0 5) (keyOf s) hk.1 hk.2.1 (by rw [keyOf_len]; exact hs10) (by rw [keyOf_len]; exact hs0) w.heap.size w.heap.size hV (by have := H0.out.1; omega)
  rw [keyOf_len] at hvp
  have HVP := Lib.hid hvp
  have hTw : Tch w (convW w1 s) (fun _ => False) := (H0.out.2.2.trans hT (fun _ _ h => h)).trans hTc (fun _ _ h => h)
  have HTW := Lib.hid hTw
  clear hvp hV hk hTc hcs hsz hbo A L hT hO hTw
  go_wp2_with fail
  refine HVP.out.mono ?_
  rintro e w2 ⟨rfl, Ls, ⟨v2, hv2, hR2, hb2⟩, hS2, hm2, hT2⟩
  have c0 : w2.cell? ⟨w.heap.size, 0, none⟩ = some v2 := by rw [cell_of_block hv2]; rfl
  have HP : Hid (ImpP w (mapOf false ws ws.length) (fun u => begB s (strB u)) (.returned v2) w2) := by
    refine (⟨v2, Ls, rfl, Kd.R_mono hR2 (fun _ _ => trivial), hS2, fun u => ?_, HTW.out.trans hT2 (fun b hb h => ?_)⟩ : ImpP w (mapOf false ws ws.length) (fun u => begB s (strB u)) (.returned v2) w2)
    · rw [hm2]
      show _ ↔ _ ∧ begB s (strB u) = true
      unfold begB
      rw [key_strB, decide_eq_true_iff]
    · rcases h.2 with h' | h' <;> omega
  clear hv2 hR2 hb2 hS2 hm2 hT2
  go_wp2_with fail
  go_ret
  exact HP.out

end Go.Proofs.Ytmdbnjepajifpaa
