/- impl.Apart. -/
import Derived.Test.YtmdbnjepajifpaaGreatApart1
set_option linter.unusedVariables false
set_option linter.unusedSimpArgs false
namespace Go.Proofs.YtmdbnjepajifpaaGreat
open Go.RowKit Go.Proofs.YtmdbnjepajifpaaGreatW.PrintWords Go.Proofs.YtmdbnjepajifpaaGreatW.PrintLast Go.Proofs.YtmdbnjepajifpaaGreatW.PrintMore

/-- The map when more words were put. -/
def moreM (M : Wd → Option Int) (ms : List ByteArray) : Nat → Wd → Option Int
  | 0 => M
  | j + 1 => match ms[j]? with
    | some s => stepM false (moreM M ms j) (keyOf s) j
    | none => moreM M ms j

theorem stepM_iff (M : Wd → Option Int) (K : Wd) (i : Int) (k : Wd) : stepM false M K i k ≠ none ↔ M k ≠ none ∨ k = K := by
  unfold stepM
  by_cases h : k = K
  · subst h
    cases hM : M k with
    | none => simp [setM, hM]
    | some x => simp [hM]
  · split
    · simp [setM, h]
    · simp [h]

theorem moreM_iff (M : Wd → Option Int) (ms : List ByteArray) : ∀ j, j ≤ ms.length → ∀ k, moreM M ms j k ≠ none ↔ M k ≠ none ∨ ∃ s, s ∈ ms.take j ∧ keyOf s = k := by
  intro j
  induction j with
  | zero => intro _ k; simp [moreM]
  | succ j ih =>
    intro hj k
    obtain ⟨s, hs⟩ : ∃ s, ms[j]? = some s := ⟨_, List.getElem?_eq_getElem (by omega)⟩
    have e : moreM M ms (j + 1) = stepM false (moreM M ms j) (keyOf s) j := by simp [moreM, hs]
    have et : ms.take (j + 1) = ms.take j ++ [s] := by rw [List.take_add_one, hs]; rfl
    rw [e, stepM_iff, ih (by omega), et, or_assoc]
    refine or_congr Iff.rfl ⟨?_, ?_⟩
    · rintro (⟨x, hx, e⟩ | h)
      · exact ⟨x, List.mem_append.2 (.inl hx), e⟩
      · exact ⟨s, by simp, h.symm⟩
    · rintro ⟨x, hx, e2⟩
      rw [List.mem_append, List.mem_singleton] at hx
      rcases hx with hx | rfl
      · exact .inl ⟨x, hx, e2⟩
      · exact .inr e2.symm

theorem GO.more {M : Wd → Option Int} {gs : List ByteArray} (G : GO M gs) (ms : List ByteArray) : GO (moreM M ms ms.length) gs := by
  have h : ∀ k, M k ≠ none → moreM M ms ms.length k ≠ none := fun k hk => (moreM_iff M ms ms.length (Nat.le_refl _) k).2 (.inl hk)
  exact ⟨G.nodup, fun s hs => ⟨h _ (G.mem s hs).1, (G.mem s hs).2⟩, h _ G.a, h _ G.z⟩

section
variable {w0 wr : World} {t : Nat} {rp : Wd} {M : Wd → Option Int} {O : Nat → Prop} {ms : List ByteArray} {J : (Nat → Prop) → World → Prop}

/-- Insert into a trie that has been grown. -/
theorem ins_call (T : TrieAt wr t 2 10 rp M O) (s : ByteArray) (h0 : 0 < s.size) (h10 : s.size ≤ 10) (i : Int) :
    Calls Tryz.prog 31 #[ptr t, .slice (some ⟨wr.heap.size, 0, none⟩) s.size (grownCap wr s.size 0 5), .iface 3 (.int .i64 i)] (convW wr s)
      (fun e w2 => (∃ b, e = .returned (.bool b)) ∧ ∃ O' rp', TrieAt w2 t 2 10 rp' (stepM false M (keyOf s) i) O' ∧ Tch wr w2 O ∧ ∀ k, O' k → O k ∨ wr.heap.size ≤ k) := by
  have hlt := T.lt
  have hsz := conv_size wr s
  have G : GS (convW wr s) t 10 2 M O := ⟨fun k hk => by have := hlt k hk; omega, .inr (.inr ⟨Nat.le_refl _, rp, T.tch (conv_tch _ _ _)⟩)⟩
  have hin := insert_g _ t 10 2 _ O G _ _ (keyOf s) (conv_key wr s) (fun h => Nat.lt_irrefl _ (hlt _ h)) (by rw [keyOf_len]; exact h0) (by rw [keyOf_len]; exact h10) (by omega) (by omega) (by omega) i
  rw [keyOf_len] at hin
  refine hin.mono ?_
  rintro e w2 ⟨he, O', ⟨_, G'⟩, hO', hT⟩
  refine ⟨⟨_, he⟩, ?_⟩
  rcases G' with ⟨h, _⟩ | ⟨h, _⟩ | ⟨_, rp', T'⟩
  · omega
  · omega
  · refine ⟨O', rp', T', (conv_tch wr s _).trans hT (fun _ _ h => h), fun k hk => ?_⟩
    rcases hO' k hk with h | h | h
    · exact .inl h
    · exact .inr (by omega)
    · exact .inr (by omega)

/-- The state of the loop. -/
def MoreI (w0 : World) (t : Nat) (M : Wd → Option Int) (ms : List ByteArray) (J : (Nat → Prop) → World → Prop) (j : Nat) (wr : World) : Prop :=
  j ≤ ms.length ∧ ∃ O rp, TrieAt wr t 2 10 rp (moreM M ms j) O ∧ (∀ k, O k → w0.heap.size ≤ k) ∧ Tch w0 wr (fun _ => False) ∧ J O wr

theorem MoreI.call (hJ : ∀ O1 O2 wr w2, J O1 wr → Tch wr w2 O1 → (∀ k, O2 k → O1 k ∨ wr.heap.size ≤ k) → J O2 w2) {j : Nat} {s : ByteArray} (hs : ms[j]? = some s) (h0 : 0 < s.size) (h10 : s.size ≤ 10) (H : MoreI w0 t M ms J j wr) :
    Calls Tryz.prog 31 #[ptr t, .slice (some ⟨wr.heap.size, 0, none⟩) s.size (grownCap wr s.size 0 5), .iface 3 (.int .i64 j)] (convW wr s) (fun e w2 => (∃ b, e = .returned (.bool b)) ∧ MoreI w0 t M ms J (j + 1) w2) := by
  obtain ⟨_, O, rp, T, hO, hT, hj⟩ := H
  refine (ins_call T s h0 h10 j).mono ?_
  rintro e w2 ⟨he, O', rp', T', hT', hO'⟩
  have hlt := (List.getElem?_eq_some_iff.1 hs).1
  have hsz := hT.size
  refine ⟨he, by omega, O', rp', ?_, fun k hk => ?_, hT.trans hT' (fun b hb h => by have := hO b h; omega), hJ O O' wr w2 hj hT' hO'⟩
  · have e : moreM M ms (j + 1) = stepM false (moreM M ms j) (keyOf s) j := by simp [moreM, hs]
    rw [e]; exact T'
  · rcases hO' k hk with h | h
    · exact hO k h
    · omega
end

/-- What impl.Apart returns: the keys of the one, the keys of the other. -/
def ApartP (w : World) (M1 M2 : Wd → Option Int) (e : Ending) (w' : World) : Prop :=
  ∃ (v1 v2 : Value) (T1 T2 : List Wd), e = .returned (.tuple #[v1, v2]) ∧ Kd.R Kd.string 9 w' w.heap.size (fun _ => True) v1 (T1.map strB) ∧ Srt T1 ∧ (∀ u, u ∈ T1 ↔ M1 u ≠ none) ∧
    Kd.R Kd.string 9 w' w.heap.size (fun _ => True) v2 (T2.map strB) ∧ Srt T2 ∧ (∀ u, u ∈ T2 ↔ M2 u ≠ none) ∧ Tch w w' (fun _ => False)

theorem apart_fin (ws ms gs : List ByteArray) (h : ws.length + ms.length ≤ 500) : ∃ U : List Wd, U.length ≤ 500 ∧ ∀ u, dropM (moreM (mapOf false ws ws.length) ms ms.length) gs gs.length u ≠ none → u ∈ U := by
  refine ⟨(ws ++ ms).map keyOf, by rw [List.length_map, List.length_append]; exact h, fun u hu => ?_⟩
  have h1 : moreM (mapOf false ws ws.length) ms ms.length u ≠ none := by
    unfold dropM at hu
    split at hu
    · exact absurd rfl hu
    · exact hu
  rw [List.map_append, List.mem_append]
  rcases (moreM_iff _ ms ms.length (Nat.le_refl _) u).1 h1 with h2 | ⟨s, hs, e⟩
  · obtain ⟨s, hs, e⟩ := (map_iff ws u).1 h2
    exact .inl (List.mem_map.2 ⟨s, hs, e⟩)
  · exact .inr (List.mem_map.2 ⟨s, List.mem_of_mem_take hs, e⟩)

theorem map_fin (ws : List ByteArray) (h : ws.length ≤ 500) : ∃ U : List Wd, U.length ≤ 500 ∧ ∀ u, mapOf false ws ws.length u ≠ none → u ∈ U :=
  ⟨ws.map keyOf, by rw [List.length_map]; exact h, fun u hu => by
    obtain ⟨s, hs, e⟩ := (map_iff ws u).1 hu
    exact List.mem_map.2 ⟨s, hs, e⟩⟩

set_option maxRecDepth 100000 in
set_option maxHeartbeats 6400000 in
theorem apart_impl (w : World) (n m : Nat) (hn : 1 ≤ n) (hm : 1 ≤ m) (hm9 : m ≤ 12) (v : Value) (ws : List ByteArray) (W : WS ws) (R : Row w v ws) (vm : Value) (ms : List ByteArray) (RM : Row w vm ms) (hms : ∀ s, s ∈ ms → 0 < s.size ∧ s.size ≤ 10) (hmax : ws.length + ms.length ≤ 500)
    (vg : Value) (gs : List ByteArray) (RG : Row w vg gs) (G : GO (mapOf false ws ws.length) gs) (hgmax : gs.length ≤ 1000) :
    Calls Tryz.prog 19 #[.int .i64 n, .int .i64 m, v, vm, vg] w (ApartP w (dropM (moreM (mapOf false ws ws.length) ms ms.length) gs gs.length) (mapOf false ws ws.length)) := by
  obtain ⟨g, c, hv, hcell⟩ : ∃ (g : Option Addr) (c : Nat), vm = .slice g ms.length c ∧ ∀ w1, Tch w w1 (fun _ => False) → ∀ i s, ms[i]? = some s → ∃ b, g = some ⟨b, 0, none⟩ ∧ w1.cell? ⟨b, i, none⟩ = some (.string s) := by
    rcases RM with ⟨rfl, rfl⟩ | ⟨b, c, rfl, h1, h2, h3⟩
    · exact ⟨none, 0, rfl, fun _ _ i s h => by simp at h⟩
    · exact ⟨_, c, rfl, fun w1 hT i s h => ⟨b, rfl, by rw [World.cell?_of_block (hT.keep b h1 (fun h => h))]; exact h3 i s h⟩⟩
  subst hv
  have hcv := conv_run
  have HGR := Lib.hid (grow_any w n m hn hm hm9 v ws W R (by omega))
  have HCELL := Lib.hid hcell
  have HG := Lib.hid (⟨G, RG, hms⟩ : _ ∧ _ ∧ _)
  have hml : ms.length ≤ 500 := by omega
  clear R W RM RG G hcell hms
  go_enter Tryz.func19, Tryz.ntmps19
  go_wp2_with fail
  refine HGR.out.mono ?_
  rintro e w1 ⟨t, rfl, O, rp, T, hO, hT⟩
  obtain ⟨N, nd, wd, S, sh, A, L⟩ := T
  have HCL := Lib.hid (clone_trie A)
  have HT := Lib.hid (⟨hO, hT, A, L⟩ : _ ∧ _ ∧ _ ∧ _)
  clear hO hT A L
  go_wp2_with fail
  refine HCL.out.mono ?_
  rintro e w2 ⟨u, N', nd', wd', S', sh', rfl, B, hT2⟩
  obtain ⟨Ou, hOu⟩ : ∃ Ou : Nat → Prop, (fun k => w1.heap.size ≤ k ∧ k < w2.heap.size) = Ou := ⟨_, rfl⟩
  rw [hOu] at B
  have hOu0 : ∀ k, Ou k → w.heap.size ≤ k := fun k hk => by rw [← hOu] at hk; have := HT.out.2.1.size; have := hk.1; omega
  obtain ⟨J, hJd⟩ : ∃ J : (Nat → Prop) → World → Prop, (fun O W => (∀ k, O k → ¬ Ou k) ∧ TAw W u 10 rp (mapOf false ws ws.length) Ou N' nd' wd' S' sh') = J := ⟨_, rfl⟩
  have hJ : ∀ O1 O2 wr w2, J O1 wr → Tch wr w2 O1 → (∀ k, O2 k → O1 k ∨ wr.heap.size ≤ k) → J O2 w2 := by
    subst hJd
    rintro O1 O2 wr w2 ⟨h1, h2⟩ hT hO
    exact ⟨fun k hk hu => by
      rcases hO k hk with h | h
      · exact h1 k h hu
      · have := h2.lt k hu; omega, hT.taw h2 (fun k hu ho => h1 k ho hu)⟩
  have hJ0 : J O w2 := by
    subst hJd
    refine ⟨fun k hk hu => ?_, B⟩
    rw [← hOu] at hu
    have := HT.out.2.2.1.lt k hk
    have := hu.1
    omega
  have hM0 : MoreI w t (mapOf false ws ws.length) ms J 0 w2 :=
    ⟨Nat.zero_le _, O, rp, ⟨N, nd, wd, S, sh, HT.out.2.2.1.later (fun k hk => hT2.keep k (HT.out.2.2.1.lt k hk) (fun h => h)) hT2.size, HT.out.2.2.2⟩, HT.out.1, HT.out.2.1.trans hT2 (fun _ _ h => h), hJ0⟩
  have HM0 := Lib.hid hM0
  have HJ := Lib.hid (⟨hJ, hJd, hOu0⟩ : _ ∧ _ ∧ _)
  clear hM0 hJ hJ0 hJd hOu hOu0 B hT2
  go_wp2_with fail
  go_loopw [24] (fun i wr => ∃ j : Nat, i = .int .i64 (j : Int) ∧ Hid (MoreI w t (mapOf false ws ws.length) ms J j wr)) (fun i _ => ms.length - (intOf i).toNat)
  case atStart => exact ⟨0, rfl, HM0⟩
  case round =>
    obtain ⟨j, rfl, HI⟩ := hrel
    by_cases hj : j < ms.length
    · have hj' : (j : Int) < (ms.length : Int) := by omega
      obtain ⟨s, hs⟩ : ∃ s, ms[j]? = some s := ⟨_, List.getElem?_eq_getElem hj⟩
      obtain ⟨b, rfl, hc0⟩ := HCELL.out wr (by obtain ⟨_, O, rp, _, _, hT, _⟩ := HI.out; exact hT) j s hs
      have hsz := HG.out.2.2 s (List.mem_of_getElem? hs)
      have HIN := Lib.hid (HI.out.call HJ.out.1 hs hsz.1 hsz.2)
      clear hs hsz
      go_wp2_with fail
      refine HIN.out.mono ?_
      rintro e w3 ⟨⟨bb, rfl⟩, hI⟩
      have HI2 := Lib.hid hI
      clear hI
      go_wp2_with fail
      go_roundw
      case rel => exact ⟨j + 1, by go_num, HI2⟩
      case measure => simp [intOf]; omega
    · have hj' : ¬ (j : Int) < (ms.length : Int) := by omega
      have hjl : j = ms.length := by have := HI.out.1; omega
      subst hjl
      obtain ⟨_, O3, rp3, T3, hO3, hT3, hJ3⟩ := HI.out
      have HD := Lib.hid (drop_with J HJ.out.1 w wr t 2 (by omega) 10 rp3 _ O3 T3 hO3 hT3 vg gs (HG.out.1.more ms) HG.out.2.1 hJ3 (by omega))
      clear T3 hO3 hT3 hJ3
      go_wp2_with fail
      refine HD.out.mono ?_
      rintro e w4 ⟨rfl, O4, ⟨_, T4, hO4, hT4⟩, hJ4⟩
      obtain ⟨N4, nd4, wd4, S4, sh4, A4, L4⟩ := T4
      rw [← HJ.out.2.1] at hJ4
      have HK1 := Lib.hid (keys_with (base := w.heap.size) Ou (fun k hk => ⟨hJ4.2.lt k hk, fun h => hJ4.1 k h hk⟩) (fun W => TAw W u 10 rp (mapOf false ws ws.length) Ou N' nd' wd' S' sh') hJ4.2 (fun W W' h hT => hT.taw h (fun k hk h' => h' hk)) A4.lax hO4 hT4.size (apart_fin ws ms gs hmax))
      have HT4 := Lib.hid hT4
      clear A4 L4 hO4 hT4 hJ4
      go_wp2_with fail
      refine HK1.out.mono ?_
      rintro e w5 ⟨v5, T5, rfl, hR5, hS5, hm5, hT5, hX5⟩
      have hT05 : Tch w w5 (fun _ => False) := HT4.out.trans hT5 (fun b hb h => by omega)
      have hE : (Kd.string).E = [] := rfl
      have HK2 := Lib.hid (keys_with (base := w.heap.size) (fun k => v5.ownBlock = some k) (fun k hk => ⟨((Kd.R_bound hR5).1 k hk).2.2.1, hR5.1 k hk⟩) (fun W => Kd.R Kd.string 9 W w.heap.size (fun k => some k = v5.ownBlock) v5 (T5.map strB)) (Kd.R_tight hE hR5)
        (fun W W' h hT => Kd.R_step h (fun k hk hlt => hT.keep k hlt (fun hn => hn hk.symm))) hX5 HJ.out.2.2 hT05.size (map_fin ws (by omega)))
      have H5 := Lib.hid (⟨hS5, hm5, hT05⟩ : _ ∧ _ ∧ _)
      clear hR5 hS5 hm5 hT5 hX5 hT05 hE
      go_wp2_with fail
      refine HK2.out.mono ?_
      rintro e w6 ⟨v6, T6, rfl, hR6, hS6, hm6, hT6, hX6⟩
      have HP : Hid (ApartP w (dropM (moreM (mapOf false ws ws.length) ms ms.length) gs gs.length) (mapOf false ws ws.length) (.returned (.tuple #[v5, v6])) w6) :=
        (⟨v5, v6, T5, T6, rfl, Kd.R_mono hX6 (fun _ _ => trivial), H5.out.1, H5.out.2.1, Kd.R_mono hR6 (fun _ _ => trivial), hS6, hm6, H5.out.2.2.trans hT6 (fun b hb h => by omega)⟩ : ApartP w _ _ (.returned (.tuple #[v5, v6])) w6)
      clear hR6 hS6 hm6 hT6 hX6
      go_wp2_with fail
      go_ret2
      exact HP.out

end Go.Proofs.YtmdbnjepajifpaaGreat
