/- impl.Apart: a trie and its copy. -/
import Derived.Test.YtmdbnjepajifpaaGreatClone4
import Derived.Test.YtmdbnjepajifpaaGreatVisit
import Derived.Test.YtmdbnjepajifpaaGreatDrops
set_option linter.unusedVariables false
set_option linter.unusedSimpArgs false
namespace Go.Proofs.YtmdbnjepajifpaaGreat
open Go.RowKit Go.Proofs.YtmdbnjepajifpaaGreatW.PrintWords Go.Proofs.YtmdbnjepajifpaaGreatW.PrintLast Go.Proofs.YtmdbnjepajifpaaGreatW.PrintMore

set_option maxRecDepth 100000 in
set_option maxHeartbeats 3200000 in
/-- w0: the world from which on the trie's blocks are new; the words' row lies before it. -/
theorem drop_with (J : (Nat → Prop) → World → Prop) (hJ : ∀ O1 O2 wr w2, J O1 wr → Tch wr w2 O1 → (∀ k, O2 k → O1 k ∨ wr.heap.size ≤ k) → J O2 w2) (w0 w : World) (t m : Nat) (hm : 1 ≤ m) (mp : Int) (rp : List UInt8) (M : List UInt8 → Option Int) (O : Nat → Prop) (T : TrieAt w t m mp rp M O) (hO : ∀ k, O k → w0.heap.size ≤ k) (hT0 : Tch w0 w (fun _ => False)) (v : Value) (gs : List ByteArray) (G : GO M gs) (R : Row w0 v gs) (hJ0 : J O w) (hmax : gs.length ≤ 1000000000) :
    Calls Tryz.prog 28 #[ptr t, v] w (fun e w' => e = .returned (ptr t) ∧ ∃ O', DropI w0 t mp rp M gs gs.length O' w' ∧ J O' w') := by
  obtain ⟨g, c, hv, hcell⟩ : ∃ (g : Option Addr) (c : Nat), v = .slice g gs.length c ∧ ∀ w1, Tch w0 w1 (fun _ => False) → ∀ i s, gs[i]? = some s → ∃ b, g = some ⟨b, 0, none⟩ ∧ w1.cell? ⟨b, i, none⟩ = some (.string s) := by
    rcases R with ⟨rfl, rfl⟩ | ⟨b, c, rfl, h1, h2, h3⟩
    · exact ⟨none, 0, rfl, fun _ _ i s h => by simp at h⟩
    · exact ⟨_, c, rfl, fun w1 hT i s h => ⟨b, rfl, by rw [World.cell?_of_block (hT.keep b h1 (fun h => h))]; exact h3 i s h⟩⟩
  subst hv
  have HCELL := Lib.hid hcell
  have HG := Lib.hid G
  have hcv := conv_run
  have hS : DropI w0 t mp rp M gs 0 O w ∧ J O w := ⟨DropI.start T hm hO hT0, hJ0⟩
  have HS := Lib.hid hS
  have HJ := Lib.hid hJ
  clear R hcell G T hO hT0 hS hJ hJ0
  go_enter Tryz.func28, Tryz.ntmps28
  go_wp2_with fail
  go_loopw [9] (fun i wr => ∃ (j : Nat) (O1 : Nat → Prop), i = .int .i64 (j : Int) ∧ Hid (DropI w0 t mp rp M gs j O1 wr ∧ J O1 wr)) (fun i _ => gs.length - (intOf i).toNat)
  case atStart => exact ⟨0, O, rfl, HS⟩
  case round =>
    obtain ⟨j, O1, rfl, HI⟩ := hrel
    by_cases hj : j < gs.length
    · have hj' : (j : Int) < (gs.length : Int) := by omega
      obtain ⟨s, hs⟩ : ∃ s, gs[j]? = some s := ⟨_, List.getElem?_eq_getElem hj⟩
      obtain ⟨b, rfl, hc0⟩ := HCELL.out wr HI.out.1.2.2.2 j s hs
      have HD := Lib.hid (drop_round HG.out HI.out.1 hs)
      clear hs
      go_wp2_with fail
      refine HD.out.mono ?_
      rintro e w2 ⟨rfl, O2, hI, hT2, hO2⟩
      have HI2 := Lib.hid (⟨hI, HJ.out O1 O2 wr w2 HI.out.2 hT2 hO2⟩ : _ ∧ _)
      clear hI hT2 hO2
      go_wp2_with fail
      go_roundw
      case rel => exact ⟨j + 1, O2, by go_num, HI2⟩
      case measure => simp [intOf]; omega
    · have hj' : ¬ (j : Int) < (gs.length : Int) := by omega
      have hjl : j = gs.length := by have := HI.out.1.1; omega
      subst hjl
      go_wp2_with fail
      go_ret
      exact ⟨rfl, O1, HI.out.1, HI.out.2⟩


section
variable {t : Nat} {mp : Int} {rp : Wd} {M : Wd → Option Int} {O : Nat → Prop} {N : Nat → Prop} {wd : Nat → List UInt8} {S : Nat → List UInt8} {sh : Nat → Nat} {base F : Nat} {nd : Nat → Nd} {w : World}

/-- A visitor that skips nothing, beside which what hangs on Z's blocks stands. -/
theorem visG_with {bo : Nat} (Z : Nat → Prop) (hZ : ∀ k, Z k → k < w.heap.size ∧ ¬ O k) (X : World → Prop) (hXw : X w) (hX : ∀ W W', X W → Tch W W' (fun k => ¬ Z k) → X W') (hen : ∀ args w, (callFunc F args).run Tryz.prog w = .ok (.enter F args) w)
    (hcall : ∀ (bo base : Nat) (bad : Nat → Prop) (acc : List Wd) (w : World) (K : Wd) (b o c : Nat) (it : Value), VS bo base bad acc w → KS w b o K → K.length ≤ 1000 → acc.length ≤ 1000 → (∀ k, bad k → k < w.heap.size) → base ≤ w.heap.size →
      Calls Tryz.prog F #[.slice (some ⟨b, o, none⟩) K.length c, it, ptr bo] w (VisP bo base bad acc K .nilIface w))
    (hbo : w.heap[bo]? = some (.cells #[.slice none 0 0] 23 (0, 0))) (hb : base ≤ bo) (hO : ¬ O bo) (hZb : ¬ Z bo) :
    VisG F #[.pointer (some ⟨bo, 0, none⟩)] O base (fun _ => false) (fun pb bb acc W => VS bo base (fun k => (O k ∨ k = pb ∨ k = bb) ∨ Z k) acc W ∧ X W ∧ w.heap.size ≤ W.heap.size) w where
  vis pb bb h1 h2 := {
    enter := hen
    call := fun acc W K b o c x ⟨hV, hx, hws⟩ hK _ hl ha hbad hbs => by
      refine (hcall bo base (fun k => (O k ∨ k = pb ∨ k = bb) ∨ Z k) acc W K b o c _ hV hK hl ha (fun k hk => ?_) hbs).mono ?_
      · rcases hk with hk | hk
        · exact hbad k hk
        · have := (hZ k hk).1; omega
      · rintro e w' ⟨he, h3, h4⟩
        exact ⟨he, ⟨h3, hX _ _ hx (h4.mono (fun k _ hk h => hk.1 (.inr h))), Nat.le_trans hws h4.size⟩, h4.mono (fun k _ hk => ⟨fun h => hk.1 (.inl h), by rcases hk.2 with e | e; rw [e]; exact hb; exact e⟩)⟩
    keep := fun acc W W' ⟨hV, hx, hws⟩ hT => ⟨hV.keep (hT.mono (fun k _ h => .inl h)), hX _ _ hx (hT.mono (fun k _ h hz => by
      have h5 := hZ k hz
      rcases h with h | h | h
      · exact h5.2 h
      · omega
      · omega)), Nat.le_trans hws hT.size⟩ }
  start pb bb W h1 h2 hT := by
    have hlt := lt_of_heap hbo
    refine ⟨⟨_, (hT.keep bo hlt (fun h => h)).trans hbo, Kd.R_nil _ _ _ _ _, fun h => ?_⟩, hX _ _ hXw (hT.mono (fun _ _ h => h.elim)), hT.size⟩
    rcases h with (h | h | h) | h
    · exact hO h
    · omega
    · omega
    · exact hZb h

set_option maxRecDepth 100000 in
theorem keys_with (Z : Nat → Prop) (hZ : ∀ k, Z k → k < w.heap.size ∧ ¬ O k) (X : World → Prop) (hXw : X w) (hX : ∀ W W', X W → Tch W W' (fun k => ¬ Z k) → X W') (A : TAw w t mp rp M O N nd wd S sh) (hO : ∀ k, O k → base ≤ k) (hbw : base ≤ w.heap.size) (hfin : ∃ U : List Wd, U.length ≤ 500 ∧ ∀ u, M u ≠ none → u ∈ U) :
    Calls Tryz.prog 23 #[.pointer (some ⟨t, 0, none⟩)] w (fun e w' => ∃ (v : Value) (T : List Wd), e = .returned v ∧ Kd.R Kd.string 9 w' base (fun k => ¬ Z k) v (T.map strB) ∧ Srt T ∧ (∀ u, u ∈ T ↔ M u ≠ none) ∧ Tch w w' (fun k => base ≤ k) ∧ X w') := by
  have hen : ∀ args w, (callFunc 36 args).run Tryz.prog w = .ok (.enter 36 args) w := fun args w => by kernel_rfl
  obtain ⟨w0, hw0⟩ : ∃ w0, w.alloc (.cells #[.slice none 0 0] 23) = w0 := ⟨_, rfl⟩
  have hs0' : w0.heap.size = w.heap.size + 1 := by rw [← hw0]; simp
  have hb0 : w0.heap[w.heap.size]? = some (.cells #[.slice none 0 0] 23 (0, 0)) := by rw [← hw0]; exact heap_new w _
  have hT0 : Tch w w0 (fun _ => False) := by rw [← hw0]; exact (Tch.refl w _).alloc _
  have A0 := hT0.taw A (fun _ _ h => h)
  have hv := visit_any (visG_with (O := O) (base := base) Z (fun k hk => ⟨by have := (hZ k hk).1; omega, (hZ k hk).2⟩) X (hX _ _ hXw (hT0.mono (fun _ _ h => h.elim))) hX hen (fun bo base bad acc w K b o c it h1 h2 h3 h4 h5 h6 => vKeys_call bo base bad acc w K b o c it h1 h2 h3 h4 h5 h6) hb0 hbw (fun h => Nat.lt_irrefl _ (A.lt _ h)) (fun h => Nat.lt_irrefl _ (hZ _ h).1)) A0 hO (by omega) hfin
  have HV := Lib.hid hv
  have HW0 := Lib.hid hw0
  have HT0 := Lib.hid hT0
  have HA := Lib.hid A
  clear A hO hfin hen hw0 hb0 hT0 A0 hv hX hXw hZ
  go_enter Tryz.func23, Tryz.ntmps23
  go_wp2_with fail
  rw [HW0.out]
  refine HV.out.mono ?_
  rintro e w2 ⟨v, rfl, pb, bb, nd', L, A2, ⟨⟨v2, hv2, hR2, hb2⟩, hX2, _⟩, hS, hm, hT⟩
  have c0 : w2.cell? ⟨w.heap.size, 0, none⟩ = some v2 := by rw [cell_of_block hv2]; rfl
  have HP : Hid (Kd.R Kd.string 9 w2 base (fun k => ¬ Z k) v2 (L.map strB) ∧ Srt L ∧ (∀ u, u ∈ L ↔ M u ≠ none) ∧ Tch w w2 (fun k => base ≤ k) ∧ X w2) := (⟨Kd.R_mono hR2 (fun k hk h => hk.1 (.inr h)), hS, fun u => by rw [hm, undT_all HA.out], (HT0.out.mono (fun _ _ h => h.elim)).trans hT (fun _ _ h => h), hX2⟩ : _ ∧ _ ∧ _ ∧ _ ∧ _)
  clear A2 hv2 hR2 hb2 hS hm hT hX2
  go_wp2_with fail
  go_ret
  exact ⟨_, _, rfl, HP.out⟩
end

end Go.Proofs.YtmdbnjepajifpaaGreat
