/- spec.All: the words that are put and not deleted, in order, each once. -/
import Derived.Test.YtmdbnjepajifpaaGreatSlFnExactKeys
import Derived.Test.YtmdbnjepajifpaaGreatC8
import Derived.Sort.OwnSorted
set_option linter.unusedVariables false
set_option linter.unusedSimpArgs false
namespace Go.Proofs.YtmdbnjepajifpaaGreat.WsFnExactKeys
open Go.RowKit Go.Proofs.YtmdbnjepajifpaaGreatW.PrintWords Go.Proofs.YtmdbnjepajifpaaGreatW.PrintLast Go.Proofs.YtmdbnjepajifpaaGreatW.PrintMore Go.Proofs.YtmdbnjepajifpaaGreat.PFnExactKeys Go.Proofs.YtmdbnjepajifpaaGreat

/-- What slices.Sort does. -/
def SortC : Prop := ∀ (g cap : Nat) (ss : List (List UInt8)) (w : World), Go.Sort.Holds Go.Proofs.encStr w g 0 ss.toArray → g < w.heap.size → ss.length < 4611686018427387904 →
  Calls Tryz.prog 29 #[.slice (some ⟨g, 0, none⟩) ss.length cap] w fun e w' => e = .returned (.tuple #[]) ∧ ∃ n os, w' = Go.Sort.grow (Go.Sort.putRow Go.Proofs.encStr (Go.Sort.ahead w n) g 0 (ss.mergeSort fun x y => decide (x ≤ y)).toArray) os

/-- What spec.All returns. -/
def AllP (w : World) (ws gs : List ByteArray) (e : Ending) (w' : World) : Prop :=
  ∃ (v : Value) (S : List Wd), e = .returned v ∧ Kd.R Kd.string 9 w' w.heap.size (fun _ => True) v (S.map strB) ∧ Srt S ∧ (∀ u, u ∈ S ↔ ∃ s, s ∈ ws ∧ keyOf s = u ∧ s ∉ gs) ∧ S.length ≤ ws.length ∧ Tch w w' (fun _ => False)

theorem encs_enc (L : List ByteArray) : encs Value.string L = (L.map keyOf).map Go.Proofs.encStr := by
  simp only [encs, List.map_map]
  apply List.map_congr_left
  intro s _
  show Value.string s = Value.string (strB (keyOf s))
  rw [strB_key]

theorem map_key_strB (l : List Wd) : (l.map strB).map keyOf = l := by
  induction l with
  | nil => rfl
  | cons a r ih => rw [List.map_cons, List.map_cons, ih, key_strB]

theorem all_sorted {w wr : World} {ws gs L : List ByteArray} {v : Value} (hT : Tch w wr (fun _ => False)) (hR : Kd.R Kd.string 9 wr w.heap.size (fun _ => True) v L) (hnd : L.Nodup) (hm : ∀ s, s ∈ L ↔ s ∈ ws ∧ s ∉ gs) (hl : L.length ≤ ws.length) (hne : L ≠ []) :
    ∃ g c, v = .slice (some ⟨g, 0, none⟩) (L.map keyOf).length c ∧ Go.Sort.Holds Go.Proofs.encStr wr g 0 (L.map keyOf).toArray ∧ g < wr.heap.size ∧
      ∀ n os, AllP w ws gs (.returned v) (Go.Sort.grow (Go.Sort.putRow Go.Proofs.encStr (Go.Sort.ahead wr n) g 0 ((L.map keyOf).mergeSort fun x y => decide (x ≤ y)).toArray) os) := by
  have ho := Kd.own_of_R hR
  rw [encs_enc] at ho
  rcases ho.2 with ⟨rfl, h0⟩ | ⟨g, cap, cur, rfl, hg, hh, h1, h2, h3, h4⟩
  · exact absurd (List.length_eq_zero_iff.1 (by simpa using h0)) hne
  · have hlk : (L.map keyOf).length = L.length := by simp
    refine ⟨g, cap, by rw [hlk], Go.holds_of_block hh (by rw [hlk]; simpa using h4), lt_of_heap hh, fun n os => ?_⟩
    have hml : ((L.map keyOf).mergeSort fun x y => decide (x ≤ y)).length = (L.map keyOf).length := by simp
    have hown := Go.ownsRow_sorted (n := n) (os := os) (ts := (L.map keyOf).mergeSort fun x y => decide (x ≤ y)) (ss := L.map keyOf) hml hg hh (by rw [hlk]; exact h1) h2 h3
    have hgr := Go.grownBy_sorted (w := wr) (g := g) (n := n) (os := os) ((L.map keyOf).mergeSort fun x y => decide (x ≤ y)).toArray
    have hndk : (L.map keyOf).Nodup := List.Pairwise.map keyOf (fun a b h e => h (keyOf_inj e)) hnd
    refine ⟨_, (L.map keyOf).mergeSort fun x y => decide (x ≤ y), rfl, ?_, srt_merge hndk, fun u => ?_, by rw [hml, hlk]; exact hl, hT.grown hgr (fun b hb hlt => by injection hb with hb; omega)⟩
    · refine Kd.R_of_own ?_ (fun _ _ => trivial)
      have e1 : encs Value.string (((L.map keyOf).mergeSort fun x y => decide (x ≤ y)).map strB) = ((L.map keyOf).mergeSort fun x y => decide (x ≤ y)).map Go.Proofs.encStr := by
        rw [encs_enc, map_key_strB]
      rw [e1]
      have e2 : (((L.map keyOf).mergeSort fun x y => decide (x ≤ y)).map strB).length = (L.map keyOf).length := by simp
      rw [e2]
      rw [hlk] at hown ⊢
      exact hown
    · rw [List.mem_mergeSort, List.mem_map]
      constructor
      · rintro ⟨s, hs, rfl⟩
        exact ⟨s, ((hm s).1 hs).1, rfl, ((hm s).1 hs).2⟩
      · rintro ⟨s, hs, rfl, hn⟩
        exact ⟨s, (hm s).2 ⟨hs, hn⟩, rfl⟩

set_option maxRecDepth 100000 in
set_option maxHeartbeats 3200000 in
theorem all_any (HS : SortC) (w : World) (A0 : Option Addr) (c0 : Nat) (ws : List ByteArray) (h0 : Row w (.slice A0 ws.length c0) ws) (hws : ws.length ≤ 200) (A1 : Option Addr) (c1 : Nat) (gs : List ByteArray) (h1 : Kd.C Kd.string w A1 gs.length gs) (hc1 : gs.length ≤ c1) (hgs : gs.length ≤ 200)
    (hne : ∃ s, s ∈ ws ∧ s ∉ gs) : Calls Tryz.prog 17 #[.slice A0 ws.length c0, .slice A1 gs.length c1] w (AllP w ws gs) := by
  obtain ⟨A0', c0', he, hcell⟩ := h0.slice'
  injection he with e1 e2 e3
  subst e1 e3
  have HCELL := Lib.hid hcell
  have HNE := Lib.hid hne
  have HSC := Lib.hid HS
  have HC : Hid (∀ W, Tch w W (fun _ => False) → ∀ s, ∃ b, (b = true ↔ s ∈ gs) ∧ ∀ n, Calls Tryz.prog 27 #[.slice A1 gs.length c1, .string s] (W.drewN n) fun e w' => e = .returned (.bool b) ∧ Drawn0 (W.drewN n) w') := by
    show ∀ W, _
    intro W hT s
    have hB : Below w.heap.size w W := hT.below (fun _ _ h => h.elim) (Nat.le_refl _)
    obtain ⟨b, hb, hbi⟩ := contains_ok gs s (by omega) 300 (by omega)
    exact ⟨b, hbi, fun n => slices_Contains_string_string.calls 300 A1 c1 gs s b (W.drewN n) (Kd.C_drewN (Kd.C_below h1 hB) n) hc1 hb⟩
  clear hcell h0 h1 e2 HS hne
  go_enter Tryz.func17, Tryz.ntmps17
  go_wp2_with fail
  go_loopw [10, 5] (fun i out wr => ∃ (j : Nat) (v1 : Value) (L : List ByteArray), j ≤ ws.length ∧ i = .int .i64 (j : Int) ∧ v1 = out ∧ Hid (Tch w wr (fun _ => False) ∧ Kd.R Kd.string 9 wr w.heap.size (fun _ => True) v1 L ∧ L.Nodup ∧ (∀ s, s ∈ L ↔ s ∈ ws.take j ∧ s ∉ gs) ∧ L.length ≤ j)) (fun i _ _ => ws.length - (intOf i).toNat)
  case atStart => exact ⟨0, _, [], Nat.zero_le _, rfl, rfl, (⟨Tch.refl _ _, Kd.R_nil _ _ _ _ _, List.nodup_nil, fun s => by simp, Nat.le_refl _⟩ : _ ∧ _ ∧ _ ∧ _ ∧ _)⟩
  case round =>
    obtain ⟨j, vo, L, hjl, rfl, rfl, HI⟩ := hrel
    by_cases hj : j < ws.length
    · have hj' : (j : Int) < (ws.length : Int) := by omega
      obtain ⟨s, hs⟩ : ∃ s, ws[j]? = some s := ⟨_, List.getElem?_eq_getElem hj⟩
      obtain ⟨b, rfl, hc0⟩ := HCELL.out wr HI.out.1 j s hs
      obtain ⟨b2, hb2, hcall2⟩ := HC.out wr HI.out.1 s
      have hLl := HI.out.2.2.2.2
      obtain ⟨b1, hb1f, hb1⟩ := contains_ok L s (by omega) 300 (by omega)
      obtain ⟨Ao, co, hvo, hlo, hCo⟩ := Kd.R_reads HI.out.2.1
      have hcall1 := slices_Contains_string_string.calls 300 Ao co L s b1 wr hCo hlo hb1f
      have H1 := Lib.hid hcall1
      have H2 := Lib.hid hcall2
      have HBB := Lib.hid (⟨hb1, hb2, hs⟩ : _ ∧ _ ∧ _)
      clear hs hcall1 hcall2 hb1f hb1 hb2 hCo hlo
      subst hvo
      cases b1 with
      | true =>
        have hrel1 : Hid (∀ n, Tch w (wr.drewN n) (fun _ => False) ∧ Kd.R Kd.string 9 (wr.drewN n) w.heap.size (fun _ => True) (.slice Ao L.length co) L ∧ L.Nodup ∧ (∀ s, s ∈ L ↔ s ∈ ws.take (j + 1) ∧ s ∉ gs) ∧ L.length ≤ j + 1) := by
          show ∀ n, _
          intro n
          refine ⟨HI.out.1.drn n, Kd.R_drewN HI.out.2.1 n, HI.out.2.2.1, fun u => ?_, by omega⟩
          rw [HI.out.2.2.2.1 u, List.take_add_one, HBB.out.2.2]
          simp only [Option.toList_some, List.mem_append, List.mem_singleton]
          constructor
          · rintro ⟨h, h'⟩; exact ⟨.inl h, h'⟩
          · rintro ⟨h | h, h'⟩
            · exact ⟨h, h'⟩
            · subst h
              exact (HI.out.2.2.2.1 u).1 (HBB.out.1.1 rfl)
        go_wp2_with fail
        refine H1.out.mono ?_
        rintro e w2 ⟨rfl, hD⟩
        obtain ⟨n1, rfl⟩ := hD.out
        go_wp2_with fail
        go_roundw
        case rel => exact ⟨j + 1, _, L, by omega, by go_num, rfl, hrel1.out n1⟩
        case measure => simp [intOf]; omega
      | false =>
        cases b2 with
        | true =>
          have hrel1 : Hid (∀ n, Tch w (wr.drewN n) (fun _ => False) ∧ Kd.R Kd.string 9 (wr.drewN n) w.heap.size (fun _ => True) (.slice Ao L.length co) L ∧ L.Nodup ∧ (∀ s, s ∈ L ↔ s ∈ ws.take (j + 1) ∧ s ∉ gs) ∧ L.length ≤ j + 1) := by
            show ∀ n, _
            intro n
            refine ⟨HI.out.1.drn n, Kd.R_drewN HI.out.2.1 n, HI.out.2.2.1, fun u => ?_, by omega⟩
            rw [HI.out.2.2.2.1 u, List.take_add_one, HBB.out.2.2]
            simp only [Option.toList_some, List.mem_append, List.mem_singleton]
            constructor
            · rintro ⟨h, h'⟩; exact ⟨.inl h, h'⟩
            · rintro ⟨h | h, h'⟩
              · exact ⟨h, h'⟩
              · subst h
                exact absurd (HBB.out.2.1.1 rfl) h'
          go_wp2_with fail
          refine H1.out.mono ?_
          rintro e w2 ⟨rfl, hD⟩
          obtain ⟨n1, rfl⟩ := hD.out
          go_wp2_with fail
          refine (H2.out n1).mono ?_
          rintro e w2 ⟨rfl, hD⟩
          obtain ⟨n2, rfl⟩ := hD.out
          go_wp2_with fail
          go_roundw
          case rel => exact ⟨j + 1, _, L, by omega, by go_num, rfl, hrel1.out _⟩
          case measure => simp [intOf]; omega
        | false =>
          have hsL : ¬ s ∈ L := fun h => absurd (HBB.out.1.2 h) (by decide)
          have hsG : ¬ s ∈ gs := fun h => absurd (HBB.out.2.1.2 h) (by decide)
          have HSN := Lib.hid (⟨hsL, hsG⟩ : _ ∧ _)
          clear hsL hsG
          go_wp2_with fail
          refine H1.out.mono ?_
          rintro e w2 ⟨rfl, hD⟩
          obtain ⟨n1, rfl⟩ := hD.out
          go_wp2_with fail
          refine (H2.out n1).mono ?_
          rintro e w2 ⟨rfl, hD⟩
          obtain ⟨n2, rfl⟩ := hD.out
          have hR2 : Hid (Kd.R Kd.string 9 ((wr.drewN n1).drewN n2) w.heap.size (fun _ => True) (.slice Ao L.length co) L ∧ Below w.heap.size w ((wr.drewN n1).drewN n2) ∧ (L.length + 1) * 16 ≤ 140737488355328 ∧ w.heap.size ≤ ((wr.drewN n1).drewN n2).heap.size) :=
            (⟨Kd.R_drewN (Kd.R_drewN HI.out.2.1 n1) n2, ((HI.out.1.drn n1).drn n2).below (fun _ _ h => h.elim) (Nat.le_refl _), by omega, HI.out.1.size⟩ : _ ∧ _ ∧ _ ∧ _)
          generalize (wr.drewN n1).drewN n2 = W2 at hR2 ⊢
          go_wp2_with (first | ((with_reducible refine gate_builtin (b := .append) (xs := #[.tmp 24, .tmp 26]) rfl ?_); at_builtin; go_loud (refine Kd.R_append Kd.string (w0 := w) w.heap.size rfl (.tmp 24) (.tmp 26) 23 9 (.string ByteArray.empty) 16 rfl Tryz.underlying23 infoStr rfl (by decide) (by omega) (.slice Ao L.length co) L s [.string s] (fun _ => True) (fun _ => False) rfl rfl rfl (fun _ hk => hk.elim) (fun _ _ => trivial) hR2.out.1 hR2.out.2.1 hR2.out.2.2.2 hR2.out.2.2.1 ?_); intro v1 w3 r1 r2 r3 r4; have HR3 := Lib.hid (⟨r1, r2⟩ : _ ∧ _); clear r1 r2 r3 r4))
          have hrr : Tch w w3 (fun _ => False) ∧ Kd.R Kd.string 9 w3 w.heap.size (fun _ => True) v1 (L ++ [s]) ∧ (L ++ [s]).Nodup ∧ (∀ u, u ∈ L ++ [s] ↔ u ∈ ws.take (j + 1) ∧ u ∉ gs) ∧ (L ++ [s]).length ≤ j + 1 := by
            refine ⟨tch_below HR3.out.2, HR3.out.1, ?_, fun u => ?_, by simp; omega⟩
            · rw [List.nodup_append]
              refine ⟨HI.out.2.2.1, by simp, fun a ha b hb e => ?_⟩
              simp only [List.mem_singleton] at hb
              subst hb; subst e
              exact HSN.out.1 ha
            · rw [List.take_add_one, HBB.out.2.2]
              simp only [Option.toList_some, List.mem_append, List.mem_singleton]
              rw [HI.out.2.2.2.1 u]
              constructor
              · rintro (⟨h, h'⟩ | h)
                · exact ⟨.inl h, h'⟩
                · rw [h]; exact ⟨.inr rfl, HSN.out.2⟩
              · rintro ⟨h | h, h'⟩
                · exact .inl ⟨h, h'⟩
                · exact .inr h
          have HRR := Lib.hid hrr
          clear hrr HR3 hR2 H1 H2
          go_roundw
          case rel => exact ⟨j + 1, v1, L ++ [s], by omega, by go_num, rfl, HRR⟩
          case measure => simp [intOf]; omega
    · have hj' : ¬ (j : Int) < (ws.length : Int) := by omega
      have hjl2 : j = ws.length := by omega
      subst hjl2
      have hmm : ∀ s, s ∈ L ↔ s ∈ ws ∧ s ∉ gs := fun s => by have := HI.out.2.2.2.1 s; rw [List.take_length] at this; exact this
      have hLne : L ≠ [] := by
        obtain ⟨s, hs1, hs2⟩ := HNE.out
        intro e
        have := (hmm s).2 ⟨hs1, hs2⟩
        rw [e] at this; cases this
      obtain ⟨g, c, rfl, hH, hgl, hpost⟩ := all_sorted HI.out.1 HI.out.2.1 HI.out.2.2.1 hmm HI.out.2.2.2.2 hLne
      have hcs := HSC.out g c (L.map keyOf) wr hH hgl (by have := HI.out.2.2.2.2; rw [List.length_map]; omega)
      rw [List.length_map] at hcs hpost
      rw [List.length_map]
      have HCS := Lib.hid hcs
      have HPOST := Lib.hid hpost
      clear hcs hpost hH hmm hLne
      go_wp2_with fail
      refine HCS.out.mono ?_
      rintro e w2 ⟨rfl, n, os, rfl⟩
      have hp := HPOST.out n os
      generalize Go.Sort.grow (Go.Sort.putRow Go.Proofs.encStr (Go.Sort.ahead wr n) g 0 ((L.map keyOf).mergeSort fun x y => decide (x ≤ y)).toArray) os = W2 at hp ⊢
      have HP := Lib.hid hp
      clear hp
      go_wp2_with fail
      go_ret
      exact HP.out

end Go.Proofs.YtmdbnjepajifpaaGreat.WsFnExactKeys
