/- spec.Cut: the words of spec.All that meet a test. -/
import Derived.Test.YtmdbnjepajifpaaGreatSpecAllFnExactKeys
import Derived.Test.YtmdbnjepajifpaaGreatC8
set_option linter.unusedVariables false
set_option linter.unusedSimpArgs false
namespace Go.Proofs.YtmdbnjepajifpaaGreat.WsFnExactKeys
open Go.RowKit Go.Proofs.YtmdbnjepajifpaaGreatW.PrintWords Go.Proofs.YtmdbnjepajifpaaGreatW.PrintLast Go.Proofs.YtmdbnjepajifpaaGreatW.PrintMore Go.Proofs.YtmdbnjepajifpaaGreat.PFnExactKeys Go.Proofs.YtmdbnjepajifpaaGreat

set_option maxRecDepth 100000 in
set_option maxHeartbeats 3200000 in
theorem cut_any (HS : SortC) (w : World) (A0 : Option Addr) (c0 : Nat) (ws : List ByteArray) (h0 : Row w (.slice A0 ws.length c0) ws) (hws : ws.length ≤ 200) (hne : ws ≠ []) (hlen : ∀ s, s ∈ ws → s.size ≤ 1000) (p : ByteArray) (hp : p.size ≤ 1000) :
    Calls Tryz.prog 12 #[.slice A0 ws.length c0, .string p] w (FltP w ws (fun u => !begB (strB u) p)) := by
  have hall := all_any HS w A0 c0 ws h0 hws none 0 [] (Kd.C_nil _ _) (Nat.zero_le _) (by simp) (by
    cases ws with
    | nil => exact absurd rfl hne
    | cons s r => exact ⟨s, by simp, by simp⟩)
  have HALL := Lib.hid hall
  have HLEN := Lib.hid hlen
  clear h0 hall hne hlen
  go_enter Tryz.func12, Tryz.ntmps12
  go_wp2_with fail
  refine HALL.out.mono ?_
  rintro e w1 ⟨v, S, rfl, hR, hS, hm, hSl, hT⟩
  have hrow := row_of hR
  obtain ⟨As, cs, rfl, hcell⟩ := hrow.slice'
  rw [List.length_map]
  have hul : ∀ u, u ∈ S → (strB u).size ≤ 1000 := fun u hu => by
    obtain ⟨s, hs, e, _⟩ := (hm u).1 hu
    have := HLEN.out s hs
    rw [← keyOf_len, key_strB, ← e, keyOf_len]; exact this
  have HCELL := Lib.hid hcell
  have HT := Lib.hid (⟨hT, hS, hm, hSl, hul⟩ : _ ∧ _ ∧ _ ∧ _ ∧ _)
  have hSl2 : S.length ≤ 200 := by omega
  clear hR hS hm hSl hT hrow hcell hul
  go_wp2_with fail
  go_loopw [11, 5] (fun i out wr => ∃ (j : Nat) (v1 : Value), j ≤ S.length ∧ i = .int .i64 (j : Int) ∧ v1 = out ∧ Hid (Tch w1 wr (fun _ => False) ∧ Kd.R Kd.string 9 wr w1.heap.size (fun _ => True) v1 (((S.take j).filter (fun u => !begB (strB u) p)).map strB))) (fun i _ _ => S.length - (intOf i).toNat)
  case atStart => exact ⟨0, _, Nat.zero_le _, rfl, rfl, (⟨Tch.refl _ _, Kd.R_nil _ _ _ _ _⟩ : _ ∧ _)⟩
  case round =>
    obtain ⟨j, vo, hjl, rfl, rfl, HI⟩ := hrel
    by_cases hj : j < S.length
    · have hj' : (j : Int) < (S.length : Int) := by omega
      obtain ⟨u, hu⟩ : ∃ u, S[j]? = some u := ⟨_, List.getElem?_eq_getElem hj⟩
      have hu' : (S.map strB)[j]? = some (strB u) := by simp [hu]
      obtain ⟨b, rfl, hc0⟩ := HCELL.out wr HI.out.1 j (strB u) hu'
      have hun := HT.out.2.2.2.2 u (List.mem_of_getElem? hu)
      have HSTEP := Lib.hid (flt_step (fun u => !begB (strB u) p) hu)
      clear hu hu'
      obtain ⟨s, hs⟩ : ∃ s, strB u = s := ⟨_, rfl⟩
      rw [hs] at hc0 hun
      have HSU := Lib.hid hs
      clear hs
      cases hb : begB s p with
      | true =>
        have HB := Lib.hid (begins_any wr s p (by omega) (by omega))
        rw [hb] at HB
        have HBB := Lib.hid hb
        clear hb
        have hcc : ¬ ((fun u => !begB (strB u) p) u) = true := by simp [HSU.out, HBB.out]
        have HCC := Lib.hid hcc
        clear hcc
        go_wp2_with fail
        refine HB.out.mono ?_
        rintro e w2 ⟨rfl, hw⟩
        obtain rfl : w2 = wr := hw
        have hrr : Tch w1 w2 (fun _ => False) ∧ Kd.R Kd.string 9 w2 w1.heap.size (fun _ => True) vo (((S.take (j + 1)).filter (fun u => !begB (strB u) p)).map strB) := by
          refine ⟨HI.out.1, ?_⟩
          rw [HSTEP.out, if_neg HCC.out, List.append_nil]
          exact HI.out.2
        have HRR := Lib.hid hrr
        clear hrr
        go_wp2_with fail
        go_roundw
        case rel => exact ⟨j + 1, vo, by omega, by go_num, rfl, HRR⟩
        case measure => simp [intOf]; omega
      | false =>
        have HB := Lib.hid (begins_any wr s p (by omega) (by omega))
        rw [hb] at HB
        have HBB := Lib.hid hb
        clear hb
        have hcc : ((fun u => !begB (strB u) p) u) = true := by simp [HSU.out, HBB.out]
        have HCC := Lib.hid hcc
        clear hcc
        go_wp2_with fail
        refine HB.out.mono ?_
        rintro e w2 ⟨rfl, hw⟩
        obtain rfl : w2 = wr := hw
        have hR2 : Kd.R Kd.string 9 w2 w1.heap.size (fun _ => True) vo (((S.take j).filter (fun u => !begB (strB u) p)).map strB) ∧ Below w1.heap.size w1 w2 ∧ ((((S.take j).filter (fun u => !begB (strB u) p)).map strB).length + 1) * 16 ≤ 140737488355328 ∧ w1.heap.size ≤ w2.heap.size :=
          ⟨HI.out.2, (HI.out.1).below (fun _ _ h => h.elim) (Nat.le_refl _), by rw [List.length_map]; exact Nat.le_trans (Nat.mul_le_mul_right 16 (Nat.succ_le_succ (flt_len _ S j))) (by omega), HI.out.1.size⟩
        have HR2 := Lib.hid hR2
        clear hR2
        generalize w2 = W2 at HR2 ⊢
        go_wp2_with (first | ((with_reducible refine gate_builtin (b := .append) (xs := #[.tmp 19, .tmp 21]) rfl ?_); at_builtin; go_loud (refine Kd.R_append Kd.string (w0 := w1) w1.heap.size rfl (.tmp 19) (.tmp 21) 23 9 (.string ByteArray.empty) 16 rfl Tryz.underlying23 infoStr rfl (by decide) (by omega) vo _ s [.string s] (fun _ => True) (fun _ => False) rfl rfl rfl (fun _ hk => hk.elim) (fun _ _ => trivial) HR2.out.1 HR2.out.2.1 HR2.out.2.2.2 HR2.out.2.2.1 ?_); intro v1 w3 r1 r2 r3 r4; have HR3 := Lib.hid (⟨r1, r2⟩ : _ ∧ _); clear r1 r2 r3 r4))
        have hrr : Tch w1 w3 (fun _ => False) ∧ Kd.R Kd.string 9 w3 w1.heap.size (fun _ => True) v1 (((S.take (j + 1)).filter (fun u => !begB (strB u) p)).map strB) := by
          refine ⟨tch_below HR3.out.2, ?_⟩
          rw [HSTEP.out, if_pos HCC.out, List.map_append, List.map_cons, List.map_nil, HSU.out]
          exact HR3.out.1
        have HRR := Lib.hid hrr
        clear hrr HR3 HR2
        go_roundw
        case rel => exact ⟨j + 1, v1, by omega, by go_num, rfl, HRR⟩
        case measure => simp [intOf]; omega
    · have hj' : ¬ (j : Int) < (S.length : Int) := by omega
      have hjl2 : j = S.length := by omega
      subst hjl2
      go_wp2_with fail
      go_ret
      have h := HI.out.2
      rw [List.take_length] at h
      exact flt_post HT.out.1 HT.out.2.1 HT.out.2.2.1 HT.out.2.2.2.1 HI.out.1 h

end Go.Proofs.YtmdbnjepajifpaaGreat.WsFnExactKeys
