/- NewTrie makes a trie without keys. -/
import Derived.Test.YtmdbnjepajifpaaDnAdd
namespace Go.Proofs.Ytmdbnjepajifpaa
open Go.RowKit

/-- A node that has just been made. -/
def freshNd (l a cap : Nat) (mp mc : Int) : Nd := { np := true, sb := 0, so := 0, sc := 0, px := [], it := none, mp := mp, mc := mc, cl := .sp l a cap [] }

def FreshP (mp mc : Int) (cap : Nat) (w : World) (e : Ending) (w' : World) : Prop :=
  ∃ p l a, e = .returned (ptr p) ∧ w.heap.size ≤ p ∧ w.heap.size ≤ l ∧ w.heap.size ≤ a ∧ w'.heap[p]? = some (freshNd l a cap mp mc).obj ∧ CLraw w' (.sp l a cap []) ∧ Tch w w' (fun _ => False)

theorem mk_tries (n : Nat) (h : n ≤ 1000) (W : World) :
    (Instr.makeSlice 103 (.int .i64 0) (.int .i64 (n : Int))).run Try.prog W = .ok (.slice (some ⟨W.heap.size, 0, none⟩) 0 n) (W.alloc (.cells (arrV (List.replicate n none)) 50)) := by
  obtain ⟨i0, hi, hz0, hz1, hz2⟩ := info_parts infoPtr
  rw [run_make (P := Try.prog) W 103 50 i0 (.pointer none) Try.underlying103 hi hz0 .i64 .i64 0 n (by omega) (by omega) (by rw [hz2]; omega) (by omega)]
  simp only [Int.toNat_natCast, hz1, arrV_nil]
  rfl

/-- newSparseChildList. -/
def NSP (n : Nat) (w : World) (e : Ending) (w' : World) : Prop :=
  e = .returned (.iface 102 (.pointer (some ⟨w.heap.size + 1, 0, none⟩))) ∧ w' = (w.alloc (.cells (arrV (List.replicate n none)) 50)).alloc (.cells #[.slice (some ⟨w.heap.size, 0, none⟩) 0 n] 105)

theorem newSparse_any (w : World) (n : Nat) (h : n ≤ 1000) : Calls Try.prog 73 #[.int .i64 (n : Int)] w (NSP n w) := by
  have hmk := mk_tries n h
  go_enter Try.func73, Try.ntmps73
  go_wp2_with fail
  go_ret
  exact ⟨rfl, rfl⟩

theorem newSparse8 (w : World) : Calls Try.prog 73 #[.int .i64 8] w (NSP 8 w) := newSparse_any w 8 (by omega)

theorem fresh_post {w : World} {mp mc : Int} {n : Nat} (A : List (Option Nat)) (hA : A.length = n) (hn : n ≤ 1000) :
    FreshP mp mc n w (.returned (.pointer (some ⟨w.heap.size, 0, none⟩)))
      (((w.alloc (.cells #[.slice none 0 0, .nilIface, .int .i64 mp, .int .i64 mc, .iface 102 (.pointer (some ⟨w.heap.size + 1 + 1, 0, none⟩))] 82)).alloc (.cells (arrV A) 50)).alloc (.cells #[.slice (some ⟨w.heap.size + 1, 0, none⟩) 0 n] 105)) := by
  have hp := heap_new w (.cells #[.slice none 0 0, .nilIface, .int .i64 mp, .int .i64 mc, .iface 102 (.pointer (some ⟨w.heap.size + 1 + 1, 0, none⟩))] 82)
  obtain ⟨W, hW⟩ : ∃ W, w.alloc (.cells #[.slice none 0 0, .nilIface, .int .i64 mp, .int .i64 mc, .iface 102 (.pointer (some ⟨w.heap.size + 1 + 1, 0, none⟩))] 82) = W := ⟨_, rfl⟩
  have hs : w.heap.size + 1 = W.heap.size := by rw [← hW]; simp
  have hT : Tch w W (fun _ => False) := by rw [← hW]; exact (Tch.refl w _).alloc _
  rw [hW] at hp
  rw [hW]
  rw [hs] at hp
  rw [hs]
  have ha : ((W.alloc (.cells (arrV A) 50)).alloc (.cells #[.slice (some ⟨W.heap.size, 0, none⟩) 0 n] 105)).heap[W.heap.size]? = some (.cells (arrV A) 50 (0, 0)) := heap_al (heap_new W _)
  have hl : ((W.alloc (.cells (arrV A) 50)).alloc (.cells #[.slice (some ⟨W.heap.size, 0, none⟩) 0 n] 105)).heap[W.heap.size + 1]? = some (.cells #[.slice (some ⟨W.heap.size, 0, none⟩) 0 n] 105 (0, 0)) := by
    have := heap_new (W.alloc (.cells (arrV A) 50)) (.cells #[.slice (some ⟨W.heap.size, 0, none⟩) 0 n] 105)
    rw [World.size_alloc] at this
    exact this
  exact ⟨w.heap.size, W.heap.size + 1, W.heap.size, rfl, Nat.le_refl _, by omega, by omega, heap_al (heap_al hp), ⟨hl, by simp, hn, arrV A, ha, by simp [arrV, hA], fun i c h => by simp at h⟩, (hT.alloc _).alloc _⟩

set_option maxHeartbeats 1600000 in
theorem newTrie_nil (w : World) : Calls Try.prog 59 #[.slice none 0 0] w (FreshP 10 8 8 w) := by
  go_enter Try.func59, Try.ntmps59
  go_wp2_with fail
  refine wp_loop_rounds 1 ?_
  rw [rounds_succ]
  go_wp2_with fail
  refine (newSparse8 _).mono ?_
  rintro e w' ⟨rfl, rfl⟩
  go_wp2_with fail
  go_ret
  exact fresh_post (n := 8) [none, none, none, none, none, none, none, none] rfl (by omega)

end Go.Proofs.Ytmdbnjepajifpaa
