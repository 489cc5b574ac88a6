/- Visitors that keep the words that they are handed in a row of their own. -/
import Derived.Test.YtmdbnjepajifpaaOrd
import Derived.Test.YtmdbnjepajifpaaGen
namespace Go.Proofs.Ytmdbnjepajifpaa
open Go.RowKit Go.Proofs.YtmdbnjepajifpaaW.PrintWords Go.Proofs.YtmdbnjepajifpaaW.PrintLast Go.Proofs.YtmdbnjepajifpaaW.PrintMore

/-- The words kept so far: the variable at block bo holds a row of them, none of whose blocks is bad (of the trie's, or the prefix's). -/
def VS (bo base : Nat) (bad : Nat → Prop) (acc : List Wd) (w : World) : Prop :=
  ∃ v, w.heap[bo]? = some (.cells #[v] 23 (0, 0)) ∧ Kd.R Kd.string 9 w base (fun k => ¬ bad k ∧ k ≠ bo) v (acc.map strB) ∧ ¬ bad bo

theorem VS.keep {bo base : Nat} {bad : Nat → Prop} {acc : List Wd} {w w' : World} (h : VS bo base bad acc w) (hT : Tch w w' bad) : VS bo base bad acc w' := by
  obtain ⟨v, h1, h2, h3⟩ := h
  exact ⟨v, (hT.keep bo (lt_of_heap h1) h3).trans h1, Kd.R_step h2 (fun k hk hlt => hT.keep k hlt hk.1), h3⟩

theorem strNums (K : Wd) : strOfNums (K.map (fun b => (b.toNat : Int))) = strB K := by
  have e : ∀ L : Wd, L.map ((fun n : Int => UInt8.ofNat n.toNat) ∘ fun b : UInt8 => (b.toNat : Int)) = L := fun L => by
    induction L with
    | nil => rfl
    | cons a r ih => rw [List.map_cons, ih]; simp
  unfold strOfNums strB
  congr 1
  simp [e]

theorem KS.c {w : World} {b o : Nat} {K : Wd} (h : KS w b o K) (hl : K.length ≤ 1000000) : Kd.C (Kd.int .u8) w (some ⟨b, o, none⟩) K.length (K.map (fun b => (b.toNat : Int))) := by
  refine Kd.C_of_reads (d := (0 : Int)) ⟨by simp, by omega, fun _ => ⟨_, rfl, fun j hj => ?_⟩⟩
  have := h j hj
  rw [Addr.add_lit, this]
  simp [List.getD_eq_getElem?_getD, hj]

theorem bytes_run {w : World} {b o c : Nat} {K : Wd} (h : KS w b o K) (hl : K.length ≤ 1000000) : (convert 53 9 (.slice (some ⟨b, o, none⟩) K.length c)).run Try.prog w = .ok (.string (strB K)) w := by
  have := Kd.C_string (P := Try.prog) (c := c) Try.underlying53 Try.underlying5 Try.underlying9 (h.c hl)
  rw [strNums] at this
  exact this

/-- What a visitor leaves. -/
def VisP (bo base : Nat) (bad : Nat → Prop) (acc : List Wd) (K : Wd) (r : Value) (w : World) (e : Ending) (w' : World) : Prop :=
  e = .returned r ∧ VS bo base bad (acc ++ [K]) w' ∧ Tch w w' (fun k => ¬ bad k ∧ (k = bo ∨ base ≤ k))

theorem vis_post {bo base : Nat} {bad : Nat → Prop} {acc : List Wd} {K : Wd} {w w3 : World} {v v1 : Value} (hv : w.heap[bo]? = some (.cells #[v] 23 (0, 0))) (hb : ¬ bad bo) (hR : Kd.R Kd.string 9 w base (fun k => ¬ bad k ∧ k ≠ bo) v (acc.map strB)) (_hbase : base ≤ w.heap.size)
    (r1 : Kd.R Kd.string 9 w3 base (fun k => ¬ bad k ∧ k ≠ bo) v1 (acc.map strB ++ [strB K])) (r3 : w.grownBy w3 v.ownBlock) :
    w3.heap[bo]? = some (.cells #[v] 23 (0, 0)) ∧ VS bo base bad (acc ++ [K]) (w3.setCell ⟨bo, 0, none⟩ v1) ∧ Tch w (w3.setCell ⟨bo, 0, none⟩ v1) (fun k => ¬ bad k ∧ (k = bo ∨ base ≤ k)) := by
  have q1 : w3.heap[bo]? = some (.cells #[v] 23 (0, 0)) := (r3.block bo (lt_of_heap hv) (fun e => (hR.1 bo e.symm).2 rfl)).trans hv
  refine ⟨q1, ⟨v1, by rw [heap_set q1]; rfl, ?_, hb⟩, ?_⟩
  · rw [List.map_append, List.map_cons, List.map_nil]
    exact Kd.R_far r1 (fun k hk => hk.2) v1
  · refine ((Tch.refl w _).grown r3 (fun b hb' hlt => ?_)).setCell _ _ (fun _ => ⟨hb, .inl rfl⟩)
    have h1 := hR.1 b hb'
    obtain ⟨inner, ho⟩ := Kd.R_own hR
    exact ⟨h1.1, .inr (own_base ho b hb')⟩

end Go.Proofs.Ytmdbnjepajifpaa
