/- Visit; impl.keys. -/
import Derived.Test.YtmdbnjepajifpaaTWalk0
import Derived.Test.YtmdbnjepajifpaaC8
set_option linter.unusedVariables false
set_option linter.unusedSimpArgs false
namespace Go.Proofs.Ytmdbnjepajifpaa
open Go.RowKit Go.Proofs.YtmdbnjepajifpaaW.PrintWords Go.Proofs.YtmdbnjepajifpaaW.PrintLast Go.Proofs.YtmdbnjepajifpaaW.PrintMore

section
variable {t : Nat} {mp : Int} {rp : Wd} {M : Wd → Option Int} {O : Nat → Prop} {N : Nat → Prop} {wd : Nat → List UInt8} {S : Nat → List UInt8} {sh : Nat → Nat} {base F : Nat} {binds : Array Value} {skip : Wd → Bool} {V : Nat → Nat → List Wd → World → Prop} {nd : Nat → Nd} {w : World}

set_option maxRecDepth 100000 in
theorem visit_any (G : VisG F binds O base skip V w) (A : TAw w t mp rp M O N nd wd S sh) (hO : ∀ k, O k → base ≤ k) (hbw : base ≤ w.heap.size) (hfin : ∃ U : List Wd, U.length ≤ 500 ∧ ∀ u, M u ≠ none → u ∈ U) :
    Calls Try.prog 55 #[.pointer (some ⟨t, 0, none⟩), .func (.func F) #[] binds] w (TWP t mp rp M O N wd S sh base skip V t w) := by
  have HT := Lib.hid (twalk0 G A hO hbw hfin)
  clear G A hO hbw hfin
  go_enter Try.func55, Try.ntmps55
  go_wp2_with fail
  refine HT.out.mono ?_
  rintro e w1 ⟨v, rfl, h⟩
  have H := Lib.hid h
  clear h
  go_wp2_with fail
  go_ret
  exact ⟨_, rfl, H.out⟩

/-- From the root on, with nothing skipped, all keys are visited. -/
theorem undT_all (A : TAw w t mp rp M O N nd wd S sh) (u : Wd) : UndT M (fun _ => false) (wd t) u ↔ M u ≠ none := by
  refine ⟨fun h => h.1, fun h => ⟨h, ?_, fun _ _ _ _ _ => rfl⟩⟩
  obtain ⟨p, hp, e⟩ := A.C.of u h
  rw [← e]; exact A.T.I.root_le hp

/-- A visitor that keeps each word and skips nothing. -/
theorem visG_plain {bo : Nat} (hen : ∀ args w, (callFunc F args).run Try.prog w = .ok (.enter F args) w)
    (hcall : ∀ (bo base : Nat) (bad : Nat → Prop) (acc : List Wd) (w : World) (K : Wd) (b o c : Nat) (it : Value), VS bo base bad acc w → KS w b o K → K.length ≤ 1000 → acc.length ≤ 1000 → (∀ k, bad k → k < w.heap.size) → base ≤ w.heap.size →
      Calls Try.prog F #[.slice (some ⟨b, o, none⟩) K.length c, it, ptr bo] w (VisP bo base bad acc K .nilIface w))
    (hbo : w.heap[bo]? = some (.cells #[.slice none 0 0] 23 (0, 0))) (hb : base ≤ bo) (hO : ¬ O bo) :
    VisG F #[.pointer (some ⟨bo, 0, none⟩)] O base (fun _ => false) (fun pb bb acc W => VS bo base (fun k => O k ∨ k = pb ∨ k = bb) acc W) w where
  vis pb bb h1 h2 := {
    enter := hen
    call := fun acc W K b o c x hV hK _ hl ha hbad hbs => (hcall bo base _ acc W K b o c _ hV hK hl ha hbad hbs).mono fun e w' ⟨he, h3, h4⟩ => ⟨he, h3, h4.mono (fun k _ hk => ⟨hk.1, by rcases hk.2 with e | e; rw [e]; exact hb; exact e⟩)⟩
    keep := fun acc W W' hV hT => hV.keep hT }
  start pb bb W h1 h2 hT := by
    have hlt := lt_of_heap hbo
    refine ⟨_, (hT.keep bo hlt (fun h => h)).trans hbo, Kd.R_nil _ _ _ _ _, fun h => ?_⟩
    rcases h with h | h | h
    · exact hO h
    · omega
    · omega

set_option maxRecDepth 100000 in
theorem keys_any (A : TAw w t mp rp M O N nd wd S sh) (hO : ∀ k, O k → base ≤ k) (hbw : base ≤ w.heap.size) (hfin : ∃ U : List Wd, U.length ≤ 500 ∧ ∀ u, M u ≠ none → u ∈ U) :
    Calls Try.prog 54 #[.pointer (some ⟨t, 0, none⟩)] w (fun e w' => ∃ (v : Value) (T : List Wd), e = .returned v ∧ Kd.R Kd.string 9 w' base (fun _ => True) v (T.map strB) ∧ Srt T ∧ (∀ u, u ∈ T ↔ M u ≠ none) ∧ Tch w w' (fun k => base ≤ k)) := by
  have hen : ∀ args w, (callFunc 71 args).run Try.prog w = .ok (.enter 71 args) w := fun args w => by kernel_rfl
  obtain ⟨w0, hw0⟩ : ∃ w0, w.alloc (.cells #[.slice none 0 0] 23) = w0 := ⟨_, rfl⟩
  have hs0' : w0.heap.size = w.heap.size + 1 := by rw [← hw0]; simp
  have hb0 : w0.heap[w.heap.size]? = some (.cells #[.slice none 0 0] 23 (0, 0)) := by rw [← hw0]; exact heap_new w _
  have hT0 : Tch w w0 (fun _ => False) := by rw [← hw0]; exact (Tch.refl w _).alloc _
  have A0 := hT0.taw A (fun _ _ h => h)
  have hv := visit_any (visG_plain (O := O) (base := base) hen (fun bo base bad acc w K b o c it h1 h2 h3 h4 h5 h6 => vKeys_call bo base bad acc w K b o c it h1 h2 h3 h4 h5 h6) hb0 hbw (fun h => Nat.lt_irrefl _ (A.lt _ h))) A0 hO (by omega) hfin
  have HV := Lib.hid hv
  have HW0 := Lib.hid hw0
  have HT0 := Lib.hid hT0
  have HA := Lib.hid A
  clear A hO hfin hen hw0 hb0 hT0 A0 hv
  go_enter Try.func54, Try.ntmps54
  go_wp2_with fail
  rw [HW0.out]
  refine HV.out.mono ?_
  rintro e w2 ⟨v, rfl, pb, bb, nd', L, A2, ⟨v2, hv2, hR2, hb2⟩, hS, hm, hT⟩
  have c0 : w2.cell? ⟨w.heap.size, 0, none⟩ = some v2 := by rw [cell_of_block hv2]; rfl
  have HP : Hid (Kd.R Kd.string 9 w2 base (fun _ => True) v2 (L.map strB) ∧ Srt L ∧ (∀ u, u ∈ L ↔ M u ≠ none) ∧ Tch w w2 (fun k => base ≤ k)) := (⟨Kd.R_mono hR2 (fun _ _ => trivial), hS, fun u => by rw [hm, undT_all HA.out], (HT0.out.mono (fun _ _ h => h.elim)).trans hT (fun _ _ h => h)⟩ : _ ∧ _ ∧ _ ∧ _)
  clear A2 hv2 hR2 hb2 hS hm hT
  go_wp2_with fail
  go_ret
  exact ⟨_, _, rfl, HP.out⟩
end

end Go.Proofs.Ytmdbnjepajifpaa
