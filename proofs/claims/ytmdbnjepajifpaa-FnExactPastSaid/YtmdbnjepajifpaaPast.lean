/- impl.Past. -/
import Derived.Test.YtmdbnjepajifpaaVisit
import Derived.Test.YtmdbnjepajifpaaVPast
import Derived.Test.YtmdbnjepajifpaaC8
set_option linter.unusedVariables false
set_option linter.unusedSimpArgs false
namespace Go.Proofs.Ytmdbnjepajifpaa
open Go.RowKit Go.Proofs.YtmdbnjepajifpaaW.PrintWords Go.Proofs.YtmdbnjepajifpaaW.PrintLast Go.Proofs.YtmdbnjepajifpaaW.PrintMore

def bIn (ws : List ByteArray) (s : ByteArray) : Bool := decide (keyOf s ∈ ws.map keyOf)
theorem bIn_iff (ws : List ByteArray) (s : ByteArray) : bIn ws s = true ↔ s ∈ ws := by
  unfold bIn
  rw [decide_eq_true_iff, List.mem_map]
  exact ⟨fun ⟨u, hu, e⟩ => by rw [← keyOf_inj e]; exact hu, fun h => ⟨s, h, rfl⟩⟩

section
variable {t : Nat} {mp : Int} {rp : Wd} {M : Wd → Option Int} {O : Nat → Prop} {N : Nat → Prop} {wd : Nat → List UInt8} {S : Nat → List UInt8} {sh : Nat → Nat} {base : Nat} {nd : Nat → Nd} {w : World}

/-- Where what lies beneath a key is skipped. -/
theorem undT_past (A : TA w t mp rp M O N nd wd S sh) (K u : Wd) : UndT M (fun s => decide (s = K)) (wd t) u ↔ M u ≠ none ∧ (M K = none ∨ u = K ∨ ¬ K <+: u) := by
  have hroot : ∀ s, M s ≠ none → wd t <+: s := fun s h => by
    obtain ⟨p, hp, e⟩ := A.C.of s h
    rw [← e]; exact A.T.I.root_le hp
  constructor
  · rintro ⟨h1, h2, h3⟩
    refine ⟨h1, ?_⟩
    by_cases e1 : M K = none
    · exact .inl e1
    · by_cases e2 : u = K
      · exact .inr (.inl e2)
      · right; right
        intro hp
        have hlt : K.length < u.length := by
          rcases Nat.lt_or_ge K.length u.length with h | h
          · exact h
          · exact absurd (hp.eq_of_length (Nat.le_antisymm hp.length_le h)).symm e2
        have := h3 K hp (hroot K e1).length_le hlt e1
        simp at this
  · rintro ⟨h1, h2⟩
    refine ⟨h1, hroot u h1, fun s hs _ hlt hm => ?_⟩
    rw [decide_eq_false_iff_not]
    rintro rfl
    rcases h2 with h | h | h
    · exact hm h
    · rw [h] at hlt; exact Nat.lt_irrefl _ hlt
    · exact h hs

theorem visG_past {bo kx : Nat} {s : ByteArray} (hbo : w.heap[bo]? = some (.cells #[.slice none 0 0] 23 (0, 0))) (hb : base ≤ bo) (hO : ¬ O bo) (hkx : w.heap[kx]? = some (.cells #[.string s] 9 (0, 0))) (hOk : ¬ O kx) :
    VisG 56 #[.pointer (some ⟨bo, 0, none⟩), .pointer (some ⟨kx, 0, none⟩)] O base (fun u => decide (u = keyOf s)) (fun pb bb acc W => VS bo base (fun k => (O k ∨ k = pb ∨ k = bb) ∨ k = kx) acc W ∧ W.heap[kx]? = some (.cells #[.string s] 9 (0, 0))) w where
  vis pb bb h1 h2 := {
    enter := fun args w => by kernel_rfl
    call := fun acc W K b o c x ⟨hV, hx⟩ hK hbb hl ha hbad hbs => by
      refine (vPast_call bo kx base s _ acc W K b o c _ hV hx (.inr rfl) hK (.inl hbb) hl ha ?_ hbs).mono ?_
      · rintro k (hk | hk)
        · exact hbad k hk
        · rw [hk]; exact lt_of_heap hx
      · rintro e w' ⟨he, h3, h4⟩
        exact ⟨he, ⟨h3, (h4.keep kx (lt_of_heap hx) (fun h => h.1 (.inr rfl))).trans hx⟩, h4.mono (fun k _ hk => ⟨fun h => hk.1 (.inl h), by rcases hk.2 with e | e; rw [e]; exact hb; exact e⟩)⟩
    keep := fun acc W W' ⟨hV, hx⟩ hT => ⟨hV.keep (hT.mono (fun k _ h => .inl h)), (hT.keep kx (lt_of_heap hx) (fun h => by
      have hlt := lt_of_heap hkx
      rcases h with h | h | h
      · exact hOk h
      · omega
      · omega)).trans hx⟩ }
  start pb bb W h1 h2 hT := by
    have hlt := lt_of_heap hbo
    have hne : bo ≠ kx := ne_of_type hbo hkx (by decide)
    refine ⟨⟨_, (hT.keep bo hlt (fun h => h)).trans hbo, Kd.R_nil _ _ _ _ _, fun h => ?_⟩, (hT.keep kx (lt_of_heap hkx) (fun h => h)).trans hkx⟩
    rcases h with (h | h | h) | h
    · exact hO h
    · omega
    · omega
    · exact hne h
end

set_option maxRecDepth 100000 in
set_option maxHeartbeats 3200000 in
theorem past_impl (w : World) (n m : Nat) (hn : 1 ≤ n) (hm : 1 ≤ m) (hm9 : m ≤ 12) (v : Value) (ws : List ByteArray) (W : WS ws) (R : Row w v ws) (hmax : ws.length ≤ 500) (s : ByteArray) (hs0 : 0 < s.size) (hs10 : s.size ≤ 10) :
    Calls Try.prog 33 #[.int .i64 n, .int .i64 m, v, .string s] w (ImpP w (mapOf false ws ws.length) (fun u => !(bIn ws s) || decide (u = keyOf s) || !begB (strB u) s)) := by
  obtain ⟨w0, hw0⟩ : ∃ w0, (w.alloc (.cells #[.string s] 9)).alloc (.cells #[.slice none 0 0] 23) = w0 := ⟨_, rfl⟩
  have hs0' : w0.heap.size = w.heap.size + 2 := by rw [← hw0]; simp
  have hk0 : w0.heap[w.heap.size]? = some (.cells #[.string s] 9 (0, 0)) := by
    rw [← hw0, heap_alloc_old _ _ (by simp)]
    exact heap_new w _
  have hb0 : w0.heap[w.heap.size + 1]? = some (.cells #[.slice none 0 0] 23 (0, 0)) := by
    have := heap_new (w.alloc (.cells #[.string s] 9)) (.cells #[.slice none 0 0] 23)
    rw [show (w.alloc (.cells #[.string s] 9)).heap.size = w.heap.size + 1 by simp, hw0] at this
    exact this
  have hT0 : Tch w w0 (fun _ => False) := by rw [← hw0]; exact ((Tch.refl w _).alloc _).alloc _
  have HGR := Lib.hid (grow_any w0 n m hn hm hm9 v ws W (R.tchF hT0) (by omega))
  have HW0 := Lib.hid hw0
  have H0 := Lib.hid (⟨hs0', hb0, hT0, hk0⟩ : _ ∧ _ ∧ _ ∧ _)
  clear R W hw0 hs0' hb0 hT0 hk0
  go_enter Try.func33, Try.ntmps33
  go_wp2_with fail
  rw [HW0.out]
  refine HGR.out.mono ?_
  rintro e w1 ⟨t, rfl, O, rp, T, hO, hT⟩
  obtain ⟨N, nd, wd, S, sh, A, L⟩ := T
  have hsz := hT.size
  have hO' : ∀ k, O k → w.heap.size + 2 ≤ k := fun k hk => by have := hO k hk; have := H0.out.1; omega
  have hbo : w1.heap[w.heap.size + 1]? = some (.cells #[.slice none 0 0] 23 (0, 0)) := (hT.keep _ (lt_of_heap H0.out.2.1) (fun h => h)).trans H0.out.2.1
  have hkx : w1.heap[w.heap.size]? = some (.cells #[.string s] 9 (0, 0)) := (hT.keep _ (lt_of_heap H0.out.2.2.2) (fun h => h)).trans H0.out.2.2.2
  have hv := visit_any (visG_past (O := O) (base := w.heap.size) hbo (by omega) (fun h => by have := hO' _ h; omega) hkx (fun h => by have := hO' _ h; omega)) A (fun k hk => by have := hO' k hk; omega) (by have := H0.out.1; omega) ⟨ws.map keyOf, by rw [List.length_map]; exact hmax, fun u hu => by
    obtain ⟨x, hx, e⟩ := (map_iff ws u).1 hu
    exact List.mem_map.2 ⟨x, hx, e⟩⟩
  have HV := Lib.hid hv
  have HA := Lib.hid A
  have HT1 : Hid (Tch w w1 (fun _ => False)) := H0.out.2.2.1.trans hT (fun _ _ h => h)
  clear hv hkx hbo A L hO hO' hT hsz
  go_wp2_with fail
  refine HV.out.mono ?_
  rintro e w2 ⟨v9, rfl, pb, bb, nd', L, A2, ⟨⟨v2, hv2, hR2, hb2⟩, _⟩, hS, hm2, hT2⟩
  have c0 : w2.cell? ⟨w.heap.size + 1, 0, none⟩ = some v2 := by rw [cell_of_block hv2]; rfl
  have HP : Hid (ImpP w (mapOf false ws ws.length) (fun u => !(bIn ws s) || decide (u = keyOf s) || !begB (strB u) s) (.returned v2) w2) := by
    refine (⟨v2, L, rfl, Kd.R_mono hR2 (fun _ _ => trivial), hS, fun u => ?_, HT1.out.trans hT2 (fun b hb h => by omega)⟩ : ImpP w (mapOf false ws ws.length) (fun u => !(bIn ws s) || decide (u = keyOf s) || !begB (strB u) s) (.returned v2) w2)
    rw [hm2, undT_past HA.out]
    have h1 : mapOf false ws ws.length (keyOf s) = none ↔ bIn ws s = false := by
      rw [← Bool.not_eq_true, bIn_iff]
      constructor
      · intro h hs
        exact (map_iff ws (keyOf s)).2 ⟨s, hs, rfl⟩ h
      · intro h
        apply Classical.byContradiction
        intro hn
        obtain ⟨x, hx, e⟩ := (map_iff ws (keyOf s)).1 hn
        exact h (by rw [← keyOf_inj e]; exact hx)
    have h2 : (¬ keyOf s <+: u) ↔ begB (strB u) s = false := by
      unfold begB
      rw [key_strB, decide_eq_false_iff_not]
    rw [h1, h2]
    simp only [Bool.or_eq_true, Bool.not_eq_true', decide_eq_true_eq, or_assoc]
  clear A2 hv2 hR2 hb2 hS hm2 hT2
  go_wp2_with fail
  go_ret
  exact HP.out

end Go.Proofs.Ytmdbnjepajifpaa
