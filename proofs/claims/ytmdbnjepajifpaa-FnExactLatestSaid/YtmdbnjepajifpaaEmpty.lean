/- impl.empty makes a trie without keys. -/
import Derived.Test.YtmdbnjepajifpaaConv
namespace Go.Proofs.Ytmdbnjepajifpaa
open Go.RowKit

theorem opt1_make (w : World) (n : Int) : Calls Try.prog 60 #[.int .i64 n] w (fun e w' => e = .returned (.func (.func 74) #[] #[.pointer (some ⟨w.heap.size, 0, none⟩)]) ∧ w' = w.alloc (.cells #[.int .i64 n] 3)) := by
  go_enter Try.func60, Try.ntmps60
  go_wp2_with fail
  go_ret
  exact ⟨rfl, rfl⟩
theorem opt2_make (w : World) (n : Int) : Calls Try.prog 61 #[.int .i64 n] w (fun e w' => e = .returned (.func (.func 75) #[] #[.pointer (some ⟨w.heap.size, 0, none⟩)]) ∧ w' = w.alloc (.cells #[.int .i64 n] 3)) := by
  go_enter Try.func61, Try.ntmps61
  go_wp2_with fail
  go_ret
  exact ⟨rfl, rfl⟩

theorem opt1_run (w : World) (n : Int) (t b : Nat) (u : Value) (hb : w.cell? ⟨b, 0, none⟩ = some (.int .i64 n)) (ht : w.cell? ⟨t, 2, none⟩ = some u) (hf : w.frozen? ⟨t, 2, none⟩ = false) :
    Calls Try.prog 74 #[ptr t, ptr b] w (fun e w' => e = .returned (.tuple #[]) ∧ w' = w.setCell ⟨t, 2, none⟩ (.int .i64 n)) := by
  go_enter Try.func74, Try.ntmps74
  go_wp2_with fail
  refine bodyPost_end (results_none rfl _ _ _) rfl ?_
  exact ⟨rfl, rfl⟩
theorem opt2_run (w : World) (n : Int) (t b : Nat) (u : Value) (hb : w.cell? ⟨b, 0, none⟩ = some (.int .i64 n)) (ht : w.cell? ⟨t, 3, none⟩ = some u) (hf : w.frozen? ⟨t, 3, none⟩ = false) :
    Calls Try.prog 75 #[ptr t, ptr b] w (fun e w' => e = .returned (.tuple #[]) ∧ w' = w.setCell ⟨t, 3, none⟩ (.int .i64 n)) := by
  go_enter Try.func75, Try.ntmps75
  go_wp2_with fail
  refine bodyPost_end (results_none rfl _ _ _) rfl ?_
  exact ⟨rfl, rfl⟩

theorem opts_post {w W2 W3 : World} {n m : Nat} (hm9 : m ≤ 1000) (hT : Tch w W2 (fun _ => False)) (hs : W2.heap.size = w.heap.size + 1) (e2 : W2.heap[w.heap.size]? = some (.cells #[.slice none 0 0, .nilIface, .int .i64 n, .int .i64 m, .nilIface] 82 (0, 0)))
    (h3 : W3 = (W2.alloc (.cells (arrV (List.replicate m none)) 50)).alloc (.cells #[.slice (some ⟨W2.heap.size, 0, none⟩) 0 m] 105)) :
    FreshP n m m w (.returned (.pointer (some ⟨w.heap.size, 0, none⟩))) (W3.setCell ⟨w.heap.size, 4, none⟩ (.iface 102 (.pointer (some ⟨W2.heap.size + 1, 0, none⟩)))) := by
  have ha : W3.heap[W2.heap.size]? = some (.cells (arrV (List.replicate m none)) 50 (0, 0)) := by rw [h3]; exact heap_al (heap_new W2 _)
  have hl : W3.heap[W2.heap.size + 1]? = some (.cells #[.slice (some ⟨W2.heap.size, 0, none⟩) 0 m] 105 (0, 0)) := by
    rw [h3]
    have := heap_new (W2.alloc (.cells (arrV (List.replicate m none)) 50)) (.cells #[.slice (some ⟨W2.heap.size, 0, none⟩) 0 m] 105)
    rw [World.size_alloc] at this
    exact this
  have e3 : W3.heap[w.heap.size]? = some (.cells #[.slice none 0 0, .nilIface, .int .i64 n, .int .i64 m, .nilIface] 82 (0, 0)) := by rw [h3]; exact heap_al (heap_al e2)
  have hT3 : Tch w W3 (fun _ => False) := by rw [h3]; exact (hT.alloc _).alloc _
  refine ⟨w.heap.size, W2.heap.size + 1, W2.heap.size, rfl, Nat.le_refl _, by omega, by omega, ?_, ⟨?_, by simp, hm9, arrV (List.replicate m none), ?_, by simp [arrV], fun i c h => by simp at h⟩, hT3.setCell _ _ (fun h => by have h : w.heap.size < w.heap.size := h; omega)⟩
  · rw [heap_set e3]; rfl
  · rw [heap_set_ne (by omega)]; exact hl
  · rw [heap_set_ne (by omega)]; exact ha

set_option maxHeartbeats 3200000 in
theorem newTrie_opts (w : World) (n m g c b1 b2 : Nat) (hn : 1 ≤ n) (hm : 1 ≤ m) (hm9 : m ≤ 1000) (hg : g < w.heap.size) (hb1 : b1 < w.heap.size) (hb2 : b2 < w.heap.size)
    (h0 : w.cell? ⟨g, 0, none⟩ = some (.func (.func 74) #[] #[.pointer (some ⟨b1, 0, none⟩)])) (h1 : w.cell? ⟨g, 1, none⟩ = some (.func (.func 75) #[] #[.pointer (some ⟨b2, 0, none⟩)]))
    (c1 : w.cell? ⟨b1, 0, none⟩ = some (.int .i64 n)) (c2 : w.cell? ⟨b2, 0, none⟩ = some (.int .i64 m)) :
    Calls Try.prog 59 #[.slice (some ⟨g, 0, none⟩) 2 c] w (FreshP n m m w) := by
  go_enter Try.func59, Try.ntmps59
  go_wp2_with fail
  refine wp_loop_rounds 3 ?_
  rw [rounds_succ]
  go_wp2_with fail
  have e0 : (w.alloc (.cells #[.slice none 0 0, .nilIface, .int .i64 0, .int .i64 0, .nilIface] 82)).heap[w.heap.size]? = some (.cells #[.slice none 0 0, .nilIface, .int .i64 0, .int .i64 0, .nilIface] 82 (0, 0)) := heap_new w _
  have al : ∀ (k i : Nat) (o : Obj), k < w.heap.size → (w.alloc o).cell? ⟨k, i, none⟩ = w.cell? ⟨k, i, none⟩ := fun k i o hk => by unfold World.cell?; rw [Below.heap_alloc _ _ _ hk]
  refine (opt1_run _ n w.heap.size b1 _ ((al _ _ _ hb1).trans c1) (by rw [cell_of_block e0]; rfl) (free_of_block e0 2)).mono ?_
  have e1 := heap_set (i := 2) e0 (.int .i64 (n : Int))
  have ne : ∀ k, k < w.heap.size → k ≠ w.heap.size := fun k h => by omega
  have g1 : ((w.alloc (.cells #[.slice none 0 0, .nilIface, .int .i64 0, .int .i64 0, .nilIface] 82)).setCell ⟨w.heap.size, 2, none⟩ (.int .i64 (n : Int))).cell? ⟨g, 1, none⟩ = some (.func (.func 75) #[] #[.pointer (some ⟨b2, 0, none⟩)]) := by
    rw [World.cell?_of_block (heap_set_ne (ne g hg) _), al _ _ _ hg]; exact h1
  have g2 : ((w.alloc (.cells #[.slice none 0 0, .nilIface, .int .i64 0, .int .i64 0, .nilIface] 82)).setCell ⟨w.heap.size, 2, none⟩ (.int .i64 (n : Int))).cell? ⟨b2, 0, none⟩ = some (.int .i64 m) := by
    rw [World.cell?_of_block (heap_set_ne (ne b2 hb2) _), al _ _ _ hb2]; exact c2
  have hT1 : Tch w ((w.alloc (.cells #[.slice none 0 0, .nilIface, .int .i64 0, .int .i64 0, .nilIface] 82)).setCell ⟨w.heap.size, 2, none⟩ (.int .i64 (n : Int))) (fun _ => False) :=
    ((Tch.refl w _).alloc _).setCell _ _ (fun h => by have h : w.heap.size < w.heap.size := h; omega)
  have hs1 : ((w.alloc (.cells #[.slice none 0 0, .nilIface, .int .i64 0, .int .i64 0, .nilIface] 82)).setCell ⟨w.heap.size, 2, none⟩ (.int .i64 (n : Int))).heap.size = w.heap.size + 1 := by simp
  rintro e w' ⟨rfl, rfl⟩
  generalize (w.alloc (.cells #[.slice none 0 0, .nilIface, .int .i64 0, .int .i64 0, .nilIface] 82)).setCell ⟨w.heap.size, 2, none⟩ (.int .i64 (n : Int)) = W1 at *
  go_wp2_with fail
  rw [rounds_succ]
  go_wp2_with fail
  refine (opt2_run _ m w.heap.size b2 _ g2 (by rw [cell_of_block e1]; rfl) (free_of_block e1 3)).mono ?_
  have e2 := heap_set (i := 3) e1 (.int .i64 (m : Int))
  have hT2 : Tch w (W1.setCell ⟨w.heap.size, 3, none⟩ (.int .i64 (m : Int))) (fun _ => False) := hT1.setCell _ _ (fun h => by have h : w.heap.size < w.heap.size := h; omega)
  have hs2 : (W1.setCell ⟨w.heap.size, 3, none⟩ (.int .i64 (m : Int))).heap.size = w.heap.size + 1 := by simpa using hs1
  rintro e w' ⟨rfl, rfl⟩
  generalize W1.setCell ⟨w.heap.size, 3, none⟩ (.int .i64 (m : Int)) = W2 at *
  have k2 : W2.cell? ⟨w.heap.size, 2, none⟩ = some (.int .i64 n) := by rw [cell_of_block e2]; rfl
  have k3 : W2.cell? ⟨w.heap.size, 3, none⟩ = some (.int .i64 m) := by rw [cell_of_block e2]; rfl
  have k4 : W2.cell? ⟨w.heap.size, 4, none⟩ = some .nilIface := by rw [cell_of_block e2]; rfl
  have kf := free_of_block e2 4
  have q1 : ¬ (n : Int) ≤ 0 := by omega
  have q2 : ¬ (m : Int) ≤ 0 := by omega
  have HT := Lib.hid (⟨hT2, hs2, e2⟩ : _ ∧ _ ∧ _)
  clear hT1 hs1 hT2 hs2 e0 e1 e2 g1 g2 al ne
  go_wp2_with fail
  rw [rounds_succ]
  go_wp2_with fail
  refine (newSparse_any _ m hm9).mono ?_
  rintro e w' ⟨rfl, rfl⟩
  have hW3 : ∃ W3, (W2.alloc (.cells (arrV (List.replicate m none)) 50)).alloc (.cells #[.slice (some ⟨W2.heap.size, 0, none⟩) 0 m] 105) = W3 := ⟨_, rfl⟩
  obtain ⟨W3, hW3⟩ := hW3
  rw [hW3]
  have e3 : W3.heap[w.heap.size]? = some (.cells #[.slice none 0 0, .nilIface, .int .i64 n, .int .i64 m, .nilIface] 82 (0, 0)) := by rw [← hW3]; exact heap_al (heap_al HT.out.2.2)
  have k4' : W3.cell? ⟨w.heap.size, 4, none⟩ = some .nilIface := by rw [cell_of_block e3]; rfl
  have kf' := free_of_block e3 4
  have HW := Lib.hid hW3.symm
  clear hW3 e3 k2 k3 k4 kf
  go_wp2_with fail
  go_ret
  exact opts_post hm9 HT.out.1 HT.out.2.1 HT.out.2.2 HW.out

/-- impl.empty. -/
def EmptyP (n : Nat) (w : World) (e : Ending) (w' : World) : Prop :=
  ∃ t O, e = .returned (ptr t) ∧ Fresh w' t n O ∧ (∀ k, O k → w.heap.size ≤ k ∧ k < w'.heap.size) ∧ Tch w w' (fun _ => False)

set_option maxHeartbeats 1600000 in
theorem empty_any (w : World) (n m : Nat) (hn : 1 ≤ n) (hm : 1 ≤ m) (hm9 : m ≤ 1000) : Calls Try.prog 38 #[.int .i64 n, .int .i64 m] w (EmptyP n w) := by
  go_enter Try.func38, Try.ntmps38
  go_wp2_with fail
  refine (opt1_make _ _).mono ?_
  rintro e w' ⟨rfl, rfl⟩
  go_wp2_with fail
  refine (opt2_make _ _).mono ?_
  rintro e w' ⟨rfl, rfl⟩
  go_wp2_with fail
  have b1 : ((w.alloc (.cells #[.int .i64 n] 3)).alloc (.cells #[.int .i64 m] 3)).heap[w.heap.size]? = some (.cells #[.int .i64 n] 3 (0, 0)) := heap_al (heap_new w _)
  have b2 : ((w.alloc (.cells #[.int .i64 n] 3)).alloc (.cells #[.int .i64 m] 3)).heap[w.heap.size + 1]? = some (.cells #[.int .i64 m] 3 (0, 0)) := by
    have := heap_new (w.alloc (.cells #[.int .i64 n] 3)) (.cells #[.int .i64 m] 3)
    rw [World.size_alloc] at this
    exact this
  have hs : ((w.alloc (.cells #[.int .i64 n] 3)).alloc (.cells #[.int .i64 m] 3)).heap.size = w.heap.size + 1 + 1 := by simp
  have hT : Tch w ((w.alloc (.cells #[.int .i64 n] 3)).alloc (.cells #[.int .i64 m] 3)) (fun _ => False) := ((Tch.refl w _).alloc _).alloc _
  generalize (w.alloc (.cells #[.int .i64 n] 3)).alloc (.cells #[.int .i64 m] 3) = W1 at *
  have b3 := heap_new W1 (.cells #[.func (.func 74) #[] #[.pointer (some ⟨w.heap.size, 0, none⟩)], .func (.func 75) #[] #[.pointer (some ⟨w.heap.size + 1, 0, none⟩)]] 73)
  rw [hs] at b3
  refine (newTrie_opts _ n m (w.heap.size + 1 + 1) 2 w.heap.size (w.heap.size + 1) hn hm hm9 (by simp; omega) (by simp; omega) (by simp; omega) (by rw [cell_of_block b3]; rfl) (by rw [cell_of_block b3]; rfl) (by rw [cell_of_block (heap_al b1)]; rfl) (by rw [cell_of_block (heap_al b2)]; rfl)).mono ?_
  rintro e w' ⟨t, l, a, rfl, h1, h2, h3, h4, h5, h6⟩
  rw [World.size_alloc] at h1 h2 h3
  have HP : Hid (EmptyP n w (.returned (ptr t)) w') := (⟨t, fun k => k = t ∨ k = l ∨ k = a, rfl, ⟨l, a, m, m, h4, h5, fun k => Iff.rfl⟩, fun k hk => by
    have c1 := lt_of_heap h4
    have c2 := h5.lt
    have c3 : l < w'.heap.size := c2.1
    have c4 : a < w'.heap.size := c2.2
    rcases hk with rfl | rfl | rfl <;> exact ⟨by omega, by omega⟩, (hT.alloc _).trans h6 (fun _ _ h => h)⟩ : EmptyP n w (.returned (ptr t)) w')
  clear h1 h2 h3 h4 h5 h6 hT hs b1 b2 b3
  go_wp2_with fail
  go_ret
  exact HP.out

end Go.Proofs.Ytmdbnjepajifpaa
