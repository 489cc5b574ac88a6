/- Tries in memory, part C8. Lemmas; no statement of their own. -/
import Derived.Test.YtmdbnjepajifpaaC4
import Derived.WalkLawsBesides

/- The maps that words make: pure facts. -/
set_option linter.unusedVariables false
set_option linter.unusedSimpArgs false
namespace Go.Proofs.Ytmdbnjepajifpaa
open Go.RowKit

/-- A word has an answer in the map just if it came. -/
theorem map_mem (ws : List ByteArray) (s : ByteArray) : ∀ j, j ≤ ws.length → ((mapOf false ws j (keyOf s)).isSome ↔ s ∈ ws.take j) := by
  intro j
  induction j with
  | zero => intro _; simp [mapOf]
  | succ j ih =>
    intro hj
    have hlt : j < ws.length := by omega
    have hs : ws[j]? = some ws[j] := List.getElem?_eq_getElem hlt
    rw [mapOf_succ hs, List.take_add_one, hs]
    simp only [stepM, Bool.false_or, Option.toList_some, List.mem_append, List.mem_singleton]
    by_cases hn : (mapOf false ws j (keyOf ws[j])).isNone = true
    · rw [if_pos hn]
      simp only [setM]
      by_cases e : keyOf s = keyOf ws[j]
      · rw [if_pos e]
        simp [keyOf_inj e]
      · rw [if_neg e, ih (by omega)]
        constructor
        · exact .inl
        · rintro (h | h)
          · exact h
          · exact absurd (by rw [h]) e
    · rw [if_neg hn, ih (by omega)]
      constructor
      · exact .inl
      · rintro (h | h)
        · exact h
        · refine (ih (by omega)).1 ?_
          cases hm : mapOf false ws j (keyOf s) with
          | none => rw [← h, hm] at hn; simp at hn
          | some v => rfl

end Go.Proofs.Ytmdbnjepajifpaa

/- Rows of words in memory: small facts that several texts share. -/
namespace Go.Proofs.Ytmdbnjepajifpaa
open Go.RowKit

theorem Row.slice' {w0 : World} {v : Value} {gs : List ByteArray} (R : Row w0 v gs) : ∃ (g : Option Addr) (c : Nat), v = .slice g gs.length c ∧ ∀ w1, Tch w0 w1 (fun _ => False) → ∀ i s, gs[i]? = some s → ∃ b, g = some ⟨b, 0, none⟩ ∧ w1.cell? ⟨b, i, none⟩ = some (.string s) := by
  rcases R with ⟨rfl, rfl⟩ | ⟨b, c, rfl, h1, h2, h3⟩
  · exact ⟨none, 0, rfl, fun _ _ i s h => by simp at h⟩
  · exact ⟨_, c, rfl, fun w1 hT i s h => ⟨b, rfl, by rw [World.cell?_of_block (hT.keep b h1 (fun h => h))]; exact h3 i s h⟩⟩

theorem infoStr : (Try.prog.info? 9).map (fun i => (i.zero, i.size, i.bytes)) = some (some (.string ByteArray.empty), 1, 16) := by kernel_rfl

end Go.Proofs.Ytmdbnjepajifpaa

/- Words in order: pure facts on sorted lists of words. -/
namespace Go.Proofs.Ytmdbnjepajifpaa
open Go.RowKit

abbrev Wd := List UInt8

/-- A word as a string. -/
def strB (u : Wd) : ByteArray := ⟨u.toArray⟩
theorem strB_key (s : ByteArray) : strB (keyOf s) = s := by unfold strB keyOf; cases s; simp
theorem key_strB (u : Wd) : keyOf (strB u) = u := by unfold strB keyOf; simp

/-- In order, each once. -/
def Srt (L : List Wd) : Prop := L.Pairwise (fun a b => a < b)

theorem wd_irrefl (a : Wd) : ¬ a < a := List.lt_irrefl a
theorem wd_trans {a b c : Wd} (h : a < b) (k : b < c) : a < c := List.lt_trans h k
theorem wd_total (a b : Wd) : a < b ∨ a = b ∨ b < a := by
  by_cases h : a < b
  · exact .inl h
  · by_cases k : b < a
    · exact .inr (.inr k)
    · exact .inr (.inl (List.le_antisymm (List.not_lt.1 k) (List.not_lt.1 h)))

theorem Srt.nodup {L : List Wd} (h : Srt L) : L.Nodup := h.imp (fun {a b} hab e => by subst e; exact wd_irrefl a hab)

/-- Two lists in order with the same words are one. -/
theorem Srt.ext {L K : List Wd} (h : Srt L) (k : Srt K) (hm : ∀ u, u ∈ L ↔ u ∈ K) : L = K := by
  have hp : L.Perm K := (List.perm_ext_iff_of_nodup h.nodup k.nodup).2 hm
  exact hp.eq_of_pairwise (fun a b _ _ hab hba => absurd (wd_trans hab hba) (wd_irrefl a)) h k

theorem srt_merge {L : List Wd} (h : L.Nodup) : Srt (L.mergeSort fun x y => decide (x ≤ y)) := by
  have hs : (L.mergeSort fun x y => decide (x ≤ y)).Pairwise (fun a b => decide (a ≤ b) = true) :=
    List.pairwise_mergeSort (fun a b c hab hbc => by simp only [decide_eq_true_eq] at *; exact List.le_trans hab hbc) (fun a b => by simp only [Bool.or_eq_true, decide_eq_true_eq]; exact List.le_total a b) L
  have hn : (L.mergeSort fun x y => decide (x ≤ y)).Nodup := (List.mergeSort_perm L _).nodup_iff.2 h
  refine (hs.and hn).imp (fun {a b} hab => ?_)
  have h1 : a ≤ b := by simpa using hab.1
  rcases wd_total a b with h | h | h
  · exact h
  · exact absurd h hab.2
  · exact absurd h (List.not_lt.2 h1)

/-- A proper beginning comes first. -/
theorem pre_lt {a b : Wd} (h : a <+: b) (hl : a.length < b.length) : a < b := by
  obtain ⟨t, rfl⟩ := h
  have ht : t ≠ [] := by rintro rfl; simp at hl
  induction a with
  | nil =>
    cases t with
    | nil => exact absurd rfl ht
    | cons x r => exact List.nil_lt_cons x r
  | cons x r ih => rw [List.cons_append]; exact List.cons_lt_cons_iff.2 (.inr ⟨rfl, ih (by simpa using hl)⟩)

/-- Where two words part, the lesser byte decides. -/
theorem byte_lt {u a b : Wd} {x y : UInt8} (ha : u ++ [x] <+: a) (hb : u ++ [y] <+: b) (h : x < y) : a < b := by
  obtain ⟨s, rfl⟩ := ha
  obtain ⟨t, rfl⟩ := hb
  rw [List.append_assoc, List.append_assoc]
  induction u with
  | nil => exact List.cons_lt_cons_iff.2 (.inl h)
  | cons c r ih => exact List.cons_lt_cons_iff.2 (.inr ⟨rfl, ih⟩)

end Go.Proofs.Ytmdbnjepajifpaa

/- spec.Begins reports whether a text begins with another one. -/
namespace Go.Proofs.Ytmdbnjepajifpaa
open Go.RowKit

theorem begins_iff (s p : ByteArray) (_h : p.size ≤ s.size) : (s.extract 0 p.size = p) ↔ keyOf p <+: keyOf s := by
  have e : keyOf (s.extract 0 p.size) = (keyOf s).take p.size := by unfold keyOf; simp
  constructor
  · intro h1
    rw [← h1, e]
    exact List.take_prefix _ _
  · intro h1
    apply keyOf_inj
    rw [e]
    have := List.prefix_iff_eq_take.1 h1
    rw [keyOf_len] at this
    exact this.symm

open Classical in
noncomputable def begB (s p : ByteArray) : Bool := decide (keyOf p <+: keyOf s)

set_option maxHeartbeats 800000 in
theorem begins_any (w : World) (s p : ByteArray) (_hs : s.size ≤ 1000000) (_hp : p.size ≤ 1000000) : Calls Try.prog 50 #[.string s, .string p] w (fun e w' => e = .returned (.bool (begB s p)) ∧ w' = w) := by
  by_cases h : p.size ≤ s.size
  · have hb : begB s p = ((s.extract 0 p.size).toList == p.toList) := by
      rw [Bool.eq_iff_iff, beq_iff_eq, key_eq]
      unfold begB
      rw [decide_eq_true_iff]
      constructor
      · intro h1; rw [(begins_iff s p h).2 h1]
      · intro h1; exact (begins_iff s p h).1 (keyOf_inj h1)
    have HB := Lib.hid hb
    clear hb
    have h' : (p.size : Int) ≤ (s.size : Int) := by omega
    go_enter Try.func50, Try.ntmps50
    go_wp2_with fail
    go_ret
    exact ⟨by rw [HB.out]; rfl, rfl⟩
  · have hb : begB s p = false := by
      unfold begB
      apply decide_eq_false
      intro h1
      have := h1.length_le
      rw [keyOf_len, keyOf_len] at this
      omega
    have HB := Lib.hid hb
    clear hb
    have h' : ¬ (p.size : Int) ≤ (s.size : Int) := by omega
    go_enter Try.func50, Try.ntmps50
    go_wp2_with fail
    go_ret
    exact ⟨by rw [HB.out]; rfl, rfl⟩

end Go.Proofs.Ytmdbnjepajifpaa

/- What the filters of spec.All share. -/
namespace Go.Proofs.Ytmdbnjepajifpaa
open Go.RowKit Go.Proofs.YtmdbnjepajifpaaW.PrintWords Go.Proofs.YtmdbnjepajifpaaW.PrintLast Go.Proofs.YtmdbnjepajifpaaW.PrintMore

/-- What a filter returns: the words that are put and meet the test, in order, each once. -/
def FltP (w : World) (ws : List ByteArray) (cond : Wd → Bool) (e : Ending) (w' : World) : Prop :=
  ∃ (v : Value) (T : List Wd), e = .returned v ∧ Kd.R Kd.string 9 w' w.heap.size (fun _ => True) v (T.map strB) ∧ Srt T ∧ (∀ u, u ∈ T ↔ (∃ s, s ∈ ws ∧ keyOf s = u) ∧ cond u = true) ∧ T.length ≤ ws.length ∧ Tch w w' (fun _ => False)

theorem flt_step (cond : Wd → Bool) {S : List Wd} {j : Nat} {u : Wd} (h : S[j]? = some u) : (S.take (j + 1)).filter cond = (S.take j).filter cond ++ (if cond u = true then [u] else []) := by
  rw [List.take_add_one, h, List.filter_append]
  congr 1
  rw [Option.toList_some]
  by_cases hc : cond u = true
  · rw [if_pos hc, List.filter_cons_of_pos hc, List.filter_nil]
  · rw [if_neg hc, List.filter_cons_of_neg hc, List.filter_nil]
theorem flt_len (cond : Wd → Bool) (S : List Wd) (j : Nat) : ((S.take j).filter cond).length ≤ S.length :=
  Nat.le_trans (List.length_filter_le _ _) (by rw [List.length_take]; omega)

theorem flt_post {w w1 wr : World} {ws : List ByteArray} {cond : Wd → Bool} {S : List Wd} {v : Value} (hT : Tch w w1 (fun _ => False)) (hS : Srt S) (hm : ∀ u, u ∈ S ↔ ∃ s, s ∈ ws ∧ keyOf s = u ∧ s ∉ ([] : List ByteArray)) (hl : S.length ≤ ws.length)
    (hT1 : Tch w1 wr (fun _ => False)) (hR : Kd.R Kd.string 9 wr w1.heap.size (fun _ => True) v ((S.filter cond).map strB)) : FltP w ws cond (.returned v) wr := by
  refine ⟨v, S.filter cond, rfl, Kd.R_lower hR hT.size, List.Pairwise.sublist List.filter_sublist hS, fun u => ?_, Nat.le_trans (List.length_filter_le _ _) hl, hT.trans hT1 (fun _ _ h => h)⟩
  rw [List.mem_filter, hm]
  constructor
  · rintro ⟨⟨s, h1, h2, _⟩, h3⟩; exact ⟨⟨s, h1, h2⟩, h3⟩
  · rintro ⟨⟨s, h1, h2⟩, h3⟩; exact ⟨⟨s, h1, h2, by simp⟩, h3⟩

end Go.Proofs.Ytmdbnjepajifpaa

/- What the functions of impl that hand back words share. -/
namespace Go.Proofs.Ytmdbnjepajifpaa
open Go.RowKit Go.Proofs.YtmdbnjepajifpaaW.PrintWords Go.Proofs.YtmdbnjepajifpaaW.PrintLast Go.Proofs.YtmdbnjepajifpaaW.PrintMore

/-- The words of a map that meet a test, in order, each once. -/
def ImpP (w : World) (M : Wd → Option Int) (cond : Wd → Bool) (e : Ending) (w' : World) : Prop :=
  ∃ (v : Value) (T : List Wd), e = .returned v ∧ Kd.R Kd.string 9 w' w.heap.size (fun _ => True) v (T.map strB) ∧ Srt T ∧ (∀ u, u ∈ T ↔ M u ≠ none ∧ cond u = true) ∧ Tch w w' (fun _ => False)

theorem map_iff (ws : List ByteArray) (u : Wd) : mapOf false ws ws.length u ≠ none ↔ ∃ s, s ∈ ws ∧ keyOf s = u := by
  constructor
  · intro h
    have h1 := (map_mem ws (strB u) ws.length (Nat.le_refl _)).1 (by rw [key_strB]; cases hx : mapOf false ws ws.length u with
      | none => exact absurd hx h
      | some x => rfl)
    rw [List.take_length] at h1
    exact ⟨strB u, h1, key_strB u⟩
  · rintro ⟨s, hs, rfl⟩ e
    have := (map_mem ws s ws.length (Nat.le_refl _)).2 (by rw [List.take_length]; exact hs)
    rw [e] at this
    cases this

/-- Both sides tell one list. -/
theorem imp_flt {ws : List ByteArray} {cond : Wd → Bool} {T U : List Wd} (hT : Srt T) (h1 : ∀ u, u ∈ T ↔ mapOf false ws ws.length u ≠ none ∧ cond u = true) (hU : Srt U) (h2 : ∀ u, u ∈ U ↔ (∃ s, s ∈ ws ∧ keyOf s = u) ∧ cond u = true) : T = U :=
  Srt.ext hT hU (fun u => by rw [h1, h2, map_iff])

end Go.Proofs.Ytmdbnjepajifpaa

/- Visitors that keep the words that they are handed in a row of their own. -/
namespace Go.Proofs.Ytmdbnjepajifpaa
open Go.RowKit Go.Proofs.YtmdbnjepajifpaaW.PrintWords Go.Proofs.YtmdbnjepajifpaaW.PrintLast Go.Proofs.YtmdbnjepajifpaaW.PrintMore

/-- The words kept so far: the variable at block bo holds a row of them, none of whose blocks is bad (of the trie's, or the prefix's). -/
def VS (bo base : Nat) (bad : Nat → Prop) (acc : List Wd) (w : World) : Prop :=
  ∃ v, w.heap[bo]? = some (.cells #[v] 23 (0, 0)) ∧ Kd.R Kd.string 9 w base (fun k => ¬ bad k ∧ k ≠ bo) v (acc.map strB) ∧ ¬ bad bo

theorem VS.keep {bo base : Nat} {bad : Nat → Prop} {acc : List Wd} {w w' : World} (h : VS bo base bad acc w) (hT : Tch w w' bad) : VS bo base bad acc w' := by
  obtain ⟨v, h1, h2, h3⟩ := h
  exact ⟨v, (hT.keep bo (lt_of_heap h1) h3).trans h1, Kd.R_step h2 (fun k hk hlt => hT.keep k hlt hk.1), h3⟩

theorem strNums (K : Wd) : strOfNums (K.map (fun b => (b.toNat : Int))) = strB K := by
  have e : ∀ L : Wd, L.map ((fun n : Int => UInt8.ofNat n.toNat) ∘ fun b : UInt8 => (b.toNat : Int)) = L := fun L => by
    induction L with
    | nil => rfl
    | cons a r ih => rw [List.map_cons, ih]; simp
  unfold strOfNums strB
  congr 1
  simp [e]

theorem KS.c {w : World} {b o : Nat} {K : Wd} (h : KS w b o K) (hl : K.length ≤ 1000000) : Kd.C (Kd.int .u8) w (some ⟨b, o, none⟩) K.length (K.map (fun b => (b.toNat : Int))) := by
  refine Kd.C_of_reads (d := (0 : Int)) ⟨by simp, by omega, fun _ => ⟨_, rfl, fun j hj => ?_⟩⟩
  have := h j hj
  rw [Addr.add_lit, this]
  simp [List.getD_eq_getElem?_getD, hj]

theorem bytes_run {w : World} {b o c : Nat} {K : Wd} (h : KS w b o K) (hl : K.length ≤ 1000000) : (convert 53 9 (.slice (some ⟨b, o, none⟩) K.length c)).run Try.prog w = .ok (.string (strB K)) w := by
  have := Kd.C_string (P := Try.prog) (c := c) Try.underlying53 Try.underlying5 Try.underlying9 (h.c hl)
  rw [strNums] at this
  exact this

/-- What a visitor leaves. -/
def VisP (bo base : Nat) (bad : Nat → Prop) (acc : List Wd) (K : Wd) (r : Value) (w : World) (e : Ending) (w' : World) : Prop :=
  e = .returned r ∧ VS bo base bad (acc ++ [K]) w' ∧ Tch w w' (fun k => ¬ bad k ∧ (k = bo ∨ base ≤ k))

theorem vis_post {bo base : Nat} {bad : Nat → Prop} {acc : List Wd} {K : Wd} {w w3 : World} {v v1 : Value} (hv : w.heap[bo]? = some (.cells #[v] 23 (0, 0))) (hb : ¬ bad bo) (hR : Kd.R Kd.string 9 w base (fun k => ¬ bad k ∧ k ≠ bo) v (acc.map strB)) (_hbase : base ≤ w.heap.size)
    (r1 : Kd.R Kd.string 9 w3 base (fun k => ¬ bad k ∧ k ≠ bo) v1 (acc.map strB ++ [strB K])) (r3 : w.grownBy w3 v.ownBlock) :
    w3.heap[bo]? = some (.cells #[v] 23 (0, 0)) ∧ VS bo base bad (acc ++ [K]) (w3.setCell ⟨bo, 0, none⟩ v1) ∧ Tch w (w3.setCell ⟨bo, 0, none⟩ v1) (fun k => ¬ bad k ∧ (k = bo ∨ base ≤ k)) := by
  have q1 : w3.heap[bo]? = some (.cells #[v] 23 (0, 0)) := (r3.block bo (lt_of_heap hv) (fun e => (hR.1 bo e.symm).2 rfl)).trans hv
  refine ⟨q1, ⟨v1, by rw [heap_set q1]; rfl, ?_, hb⟩, ?_⟩
  · rw [List.map_append, List.map_cons, List.map_nil]
    exact Kd.R_far r1 (fun k hk => hk.2) v1
  · refine ((Tch.refl w _).grown r3 (fun b hb' hlt => ?_)).setCell _ _ (fun _ => ⟨hb, .inl rfl⟩)
    have h1 := hR.1 b hb'
    obtain ⟨inner, ho⟩ := Kd.R_own hR
    exact ⟨h1.1, .inr (own_base ho b hb')⟩

section
variable {w : World} {t : Nat} {mp : Int} {rp : List UInt8} {M : List UInt8 → Option Int} {O : Nat → Prop} {N : Nat → Prop} {nd : Nat → Nd} {wd : Nat → List UInt8} {S : Nat → List UInt8} {sh : Nat → Nat}
theorem qshift0 {P : Program} {f : FuncId} {args : Array Value} {w : World} {v : Value} (h : ∀ n, Calls P f args (w.drewN n) (RetD v (w.drewN n))) (n : Nat) :
    Calls P f args (w.drewN n) fun e w'' => e = .returned v ∧ ∃ m, w'' = w.drewN m :=
  (h n).mono fun e w'' ⟨he, m, hm⟩ => ⟨he, n + m, by rw [hm, World.drewN_drewN]⟩
theorem KS.dr {W : World} {b o : Nat} {k : List UInt8} (h : KS W b o k) (n : Nat) : KS (W.drewN n) b o k := h
theorem KS.pre {W : World} {b o : Nat} {k u : List UInt8} (hu : u <+: k) (h : KS W b o k) : KS W b o u := by
  have := h.take u.length
  rw [← List.prefix_iff_eq_take.1 hu] at this
  exact this
theorem Tch.ta (A : TA w t mp rp M O N nd wd S sh) {W : World} {U : Nat → Prop} (hT : Tch w W U) (hU : ∀ k, O k → ¬ U k) : TA W t mp rp M O N nd wd S sh := A.later (fun k hk => hT.keep k (A.lt k hk) (hU k hk)) hT.size
theorem KS.keep {W : World} {b o : Nat} {k : List UInt8} (h : KS w b o k) {U : Nat → Prop} (hT : Tch w W U) (hU : ¬ U b) : KS W b o k := by
  intro i hi
  rw [World.cell?_of_block (w := w) (hT.keep b (World.block_lt_of_cell? w _ (h i hi)) hU)]
  exact h i hi
end

end Go.Proofs.Ytmdbnjepajifpaa

/- A visitor: impl.keys$1. -/
namespace Go.Proofs.Ytmdbnjepajifpaa
open Go.RowKit Go.Proofs.YtmdbnjepajifpaaW.PrintWords Go.Proofs.YtmdbnjepajifpaaW.PrintLast Go.Proofs.YtmdbnjepajifpaaW.PrintMore

set_option maxRecDepth 100000 in
set_option maxHeartbeats 1600000 in
theorem vKeys_call (bo base : Nat) (bad : Nat → Prop) (acc : List Wd) (w : World) (K : Wd) (b o c : Nat) (it : Value) (hV : VS bo base bad acc w) (hK : KS w b o K) (hl : K.length ≤ 1000) (hacc : acc.length ≤ 1000) (hbad : ∀ k, bad k → k < w.heap.size) (hbase : base ≤ w.heap.size) :
    Calls Try.prog 71 #[.slice (some ⟨b, o, none⟩) K.length c, it, ptr bo] w (VisP bo base bad acc K .nilIface w) := by
  have hcv := bytes_run hK (c := c) (by omega)
  obtain ⟨v, hv, hR, hb⟩ := hV
  have c0 : w.cell? ⟨bo, 0, none⟩ = some v := by rw [cell_of_block hv]; rfl
  have hfr : ∀ k, w.heap.size ≤ k → ¬ bad k ∧ k ≠ bo := fun k hk => ⟨fun h => by have := hbad k h; omega, fun h => by have := lt_of_heap hv; omega⟩
  have hlen : ((acc.map strB).length + 1) * 16 ≤ 140737488355328 := by rw [List.length_map]; omega
  have HQ := Lib.hid (⟨hv, hR, hb, hfr, hlen, Below.refl base w⟩ : _ ∧ _ ∧ _ ∧ _ ∧ _ ∧ _)
  clear hK hv hR hb hbad hfr hlen
  go_enter Try.func71, Try.ntmps71
  go_wp2_with (first | ((with_reducible refine gate_builtin (b := .append) (xs := #[.tmp 6, .tmp 9]) rfl ?_); at_builtin; go_loud (refine Kd.R_append Kd.string (w0 := w) base rfl (.tmp 6) (.tmp 9) 23 9 (.string ByteArray.empty) 16 rfl Try.underlying23 infoStr rfl (by decide) (by omega) v (acc.map strB) (strB K) [.string (strB K)] (fun k => ¬ bad k ∧ k ≠ bo) (fun _ => False) rfl rfl rfl (fun _ hk => hk.elim) HQ.out.2.2.2.1 HQ.out.2.1 HQ.out.2.2.2.2.2 hbase HQ.out.2.2.2.2.1 ?_); intro v1 w3 r1 r2 r3 r4; obtain ⟨A1, c1, e1⟩ := Kd.R_slice r1; subst e1; have hp := vis_post HQ.out.1 HQ.out.2.2.1 HQ.out.2.1 hbase r1 r3; have d0 : w3.cell? ⟨bo, 0, none⟩ = some v := (by rw [cell_of_block hp.1]; rfl); have d1 := free_of_block hp.1 0; have HP := Lib.hid hp; clear hp r1 r2 r3 r4))
  go_ret
  have h := HP.out.2
  simp only [List.length_append, List.length_map, List.length_cons, List.length_nil] at h
  exact ⟨rfl, h⟩

end Go.Proofs.Ytmdbnjepajifpaa
