/- add of a dense list. -/
import Derived.Test.YtmdbnjepajifpaaNewDense
namespace Go.Proofs.Ytmdbnjepajifpaa
open Go.RowKit

theorem dn_free {fb : Nat → UInt8} {l a mn hi : Nat} {arr : List (Option Nat)} {c : Nat} (hp : (CL.dn l a mn hi arr).placed fb) (hn : ∀ x, x ∈ arr.filterMap id → fb x ≠ fb c) (h1 : mn ≤ (fb c).toNat) (h2 : (fb c).toNat < mn + arr.length) :
    arr[(fb c).toNat - mn]? = some none := by
  cases hx : arr[(fb c).toNat - mn]? with
  | none => rw [List.getElem?_eq_none_iff] at hx; omega
  | some y =>
    cases y with
    | none => rfl
    | some d =>
      exfalso
      have h3 := hp _ d hx
      apply hn d (by simp only [List.mem_filterMap, id]; exact ⟨some d, List.mem_of_getElem? hx, rfl⟩)
      exact UInt8.toNat_inj.1 (by omega)

/-- A dense list's struct. -/
def dnObj (mn mx nc hi : Int) (a n : Nat) : Obj := .cells #[.int .i64 mn, .int .i64 mx, .int .i64 nc, .int .i64 hi, .slice (some ⟨a, 0, none⟩) n n] 147 (0, 0)
theorem dn_set0 {w : World} {l : Nat} {mn mx nc hi : Int} {a n : Nat} (h : w.heap[l]? = some (dnObj mn mx nc hi a n)) (v : Int) : (w.setCell ⟨l, 0, none⟩ (.int .i64 v)).heap[l]? = some (dnObj v mx nc hi a n) := heap_set h _
theorem dn_set1 {w : World} {l : Nat} {mn mx nc hi : Int} {a n : Nat} (h : w.heap[l]? = some (dnObj mn mx nc hi a n)) (v : Int) : (w.setCell ⟨l, 1, none⟩ (.int .i64 v)).heap[l]? = some (dnObj mn v nc hi a n) := heap_set h _
theorem dn_set2 {w : World} {l : Nat} {mn mx nc hi : Int} {a n : Nat} (h : w.heap[l]? = some (dnObj mn mx nc hi a n)) (v : Int) : (w.setCell ⟨l, 2, none⟩ (.int .i64 v)).heap[l]? = some (dnObj mn mx v hi a n) := heap_set h _
theorem dn_set3 {w : World} {l : Nat} {mn mx nc hi : Int} {a n : Nat} (h : w.heap[l]? = some (dnObj mn mx nc hi a n)) (v : Int) : (w.setCell ⟨l, 3, none⟩ (.int .i64 v)).heap[l]? = some (dnObj mn mx nc v a n) := heap_set h _
theorem dn_set4 {w : World} {l : Nat} {mn mx nc hi : Int} {a n : Nat} (h : w.heap[l]? = some (dnObj mn mx nc hi a n)) (a' n' : Nat) : (w.setCell ⟨l, 4, none⟩ (.slice (some ⟨a', 0, none⟩) n' n')).heap[l]? = some (dnObj mn mx nc hi a' n') := heap_set h _

theorem dn_post {w w' : World} {fb : Nat → UInt8} {l a mn hi c : Nat} {arr : List (Option Nat)} (a' mn' hi' : Nat) (mx nc : Int) (arr' : List (Option Nat))
    (hT : Tch w w' (fun k => k = l ∨ k = a)) (hl : w'.heap[l]? = some (dnObj mn' mx nc hi' a' arr'.length)) (ha : w'.heap[a']? = some (.cells (arrV arr') 50 (0, 0)))
    (hmx : mx = (mn' : Int) + arr'.length - 1) (hnc : nc = (arr'.filterMap id).length) (h256 : mn' + arr'.length ≤ 256) (hhi : hi' < arr'.length) (hno : ∀ j, j < hi' → arr'[j]? = some none)
    (hperm : (arr'.filterMap id).Perm (c :: arr.filterMap id)) (hpl : ∀ (i d : Nat), arr'[i]? = some (some d) → (fb d).toNat = mn' + i) (haa : a' = a ∨ w.heap.size ≤ a') :
    AddP w fb (.dn l a mn hi arr) c (.returned (.iface 145 (.pointer (some ⟨l, 0, none⟩)))) w' := by
  subst hmx hnc
  exact ⟨.dn l a' mn' hi' arr', rfl, ⟨hl, h256, hhi, hno, ha⟩, hperm, hpl, .inl rfl, haa, lt_of_heap hl, lt_of_heap ha, hT⟩

theorem dn_mid {w W : World} {fb : Nat → UInt8} {l a mn hi c n : Nat} {arr : List (Option Nat)} (hraw : CLraw w (.dn l a mn hi arr)) (hp : (CL.dn l a mn hi arr).placed fb) (hfree : arr[(fb c).toNat - mn]? = some none)
    (h1 : mn ≤ (fb c).toNat) (hW : ((w.drewN n).setCell ⟨a, (fb c).toNat - mn, none⟩ (.pointer (some ⟨c, 0, none⟩))).setCell ⟨l, 2, none⟩ (.int .i64 (((arr.filterMap id).length : Int) + 1)) = W) :
    (¬ (fb c).toNat - mn < hi → AddP w fb (.dn l a mn hi arr) c (.returned (.iface 145 (.pointer (some ⟨l, 0, none⟩)))) W) ∧
    ((fb c).toNat - mn < hi → AddP w fb (.dn l a mn hi arr) c (.returned (.iface 145 (.pointer (some ⟨l, 0, none⟩)))) (W.setCell ⟨l, 3, none⟩ (.int .i64 (((fb c).toNat : Int) - (mn : Int))))) := by
  obtain ⟨hl, hcap, hhi, hnone, ha⟩ := hraw
  have hal : l ≠ a := fun h => ne_of_type hl ha (by decide) h
  have hlt : (fb c).toNat - mn < arr.length := (List.getElem?_eq_some_iff.1 hfree).1
  have hT : Tch w W (fun k => k = l ∨ k = a) := by
    rw [← hW]; exact ((Tch.dr n).setCell _ _ (fun _ => .inr rfl)).setCell _ _ (fun _ => .inl rfl)
  have haW : W.heap[a]? = some (.cells (arrV (arr.set ((fb c).toNat - mn) (some c))) 50 (0, 0)) := by
    rw [← hW, heap_set_ne (fun h => hal h.symm), ← arrV_set]
    exact heap_set (w := w.drewN n) ha _
  have hlW : W.heap[l]? = some (dnObj mn ((mn : Int) + arr.length - 1) (((arr.filterMap id).length : Int) + 1) hi a (arr.set ((fb c).toNat - mn) (some c)).length) := by
    have h0 : ((w.drewN n).setCell ⟨a, (fb c).toNat - mn, none⟩ (.pointer (some ⟨c, 0, none⟩))).heap[l]? = some (dnObj mn ((mn : Int) + arr.length - 1) ((arr.filterMap id).length : Int) hi a arr.length) := by
      rw [heap_set_ne hal]; exact hl
    rw [← hW, List.length_set]
    exact dn_set2 h0 _
  have hperm := filter_set hfree (x := c)
  have hpl : ∀ (i d : Nat), (arr.set ((fb c).toNat - mn) (some c))[i]? = some (some d) → (fb d).toNat = mn + i := by
    intro i d h
    by_cases e : (fb c).toNat - mn = i
    · subst e
      rw [List.getElem?_set_self hlt] at h
      simp at h
      subst h
      omega
    · rw [List.getElem?_set_ne e] at h
      exact hp i d h
  have hnc : (((arr.filterMap id).length : Int) + 1) = ((arr.set ((fb c).toNat - mn) (some c)).filterMap id).length := by rw [hperm.length_eq]; simp
  refine ⟨fun hge => ?_, fun hlt2 => ?_⟩
  · refine dn_post a mn hi _ _ _ hT hlW haW (by simp) hnc (by simpa using hcap) (by simpa using hhi) ?_ hperm hpl (.inl rfl)
    intro j hj
    rw [List.getElem?_set_ne (by omega)]
    exact hnone j hj
  · have hT2 : Tch w (W.setCell ⟨l, 3, none⟩ (.int .i64 (((fb c).toNat : Int) - (mn : Int)))) (fun k => k = l ∨ k = a) := hT.setCell _ _ (fun _ => .inl rfl)
    refine dn_post a mn ((fb c).toNat - mn) _ _ _ hT2 (by rw [show (((fb c).toNat - mn : Nat) : Int) = ((fb c).toNat : Int) - (mn : Int) by omega]; exact dn_set3 hlW _) (by rw [heap_set_ne (fun h => hal h.symm)]; exact haW) (by simp) hnc (by simpa using hcap) (by simpa using hlt) ?_ hperm hpl (.inl rfl)
    intro j hj
    rw [List.getElem?_set_ne (by omega)]
    exact hnone j (by omega)

/-- A copy of one array of pointers into another. -/
theorem copy_arr (W : World) (ty g o dl dc a n : Nat) (X A : List (Option Nat)) (hX : W.heap[g]? = some (.cells (arrV X) 50 (0, 0))) (hA : W.heap[a]? = some (.cells (arrV A) 50 (0, 0)))
    (hn : A.length = n) (hdl : n ≤ dl) (hfit : o + n ≤ X.length) :
    (Builtin.copy_ #[83, 83] ty #[.slice (some ⟨g, o, none⟩) dl dc, .slice (some ⟨a, 0, none⟩) n n]).run Try.prog W = .ok (goInt n) (W.setRow g (arrV (X.take o ++ A ++ X.drop (o + n)))) := by
  subst hn
  obtain ⟨i0, hi, hz0, hz1, hz2⟩ := info_parts infoPtr
  have h := run_copy_row (P := Try.prog) W 83 83 ty 50 g o dl dc ⟨a, 0, none⟩ A.length A.length (arrV X) 50 (A.map optr) Try.underlying83 (by rw [hi]; simp [hz1]) hX (by show _ = min _ _; rw [Nat.min_eq_left hdl]; simp)
    (fun j v hv => by rw [Addr.add_lit, Nat.zero_add, cell_of_block hA]; simpa [arrV] using hv) (by simp [arrV]; omega) (fun v hv => by simp at hv; obtain ⟨x, _, rfl⟩ := hv; cases x <;> rfl)
  rw [h]
  simp [arrV]

/-- The step of a walk at a call of a builtin whose run is known. -/
theorem wpList_builtin {P : Program} {w : World} {ops : Array Oper} {rest : List Oper} {o : Oper} {a : Act} {Q : Exit → Act → World → Prop} (hgd : o.guard = none) {b : Builtin} {xs : Array Operand} {ts : Array TypeId}
    (ho : o.op = .call { callee := .builtin b, args := xs, argTypes := ts }) (v : Value) (w' : World)
    (hrun : (builtin b ts o.type (xs.map fun | .const _ => true | _ => false) (xs.map a.eval)).run P w = .ok (.value v) w')
    (h : wpList P ops Q rest (a.put o.dst v) w') : wpList P ops Q (o :: rest) a w := by
  refine wpList_plain hgd fun K hK => ?_
  unfold Oper.wp
  have he : (execOp a.eval o).run P w = .ok (.value v) w' := by
    unfold execOp
    simp only [ho, resolve, invoke, Sem.run_bind, Sem.run_pure, Result.andThen_ok]
    exact hrun
  rw [he]
  exact hK _ _ h

theorem setRow_heap_same {w : World} {g : Nat} {C D : Array Value} {t : TypeId} {fr : Nat × Nat} (h : w.heap[g]? = some (.cells C t fr)) : (w.setRow g D).heap[g]? = some (.cells D t fr) := setRow_heap w g C D t fr h
theorem setRow_heap_ne {w : World} {g k : Nat} {D : Array Value} (h : k ≠ g) : (w.setRow g D).heap[k]? = w.heap[k]? := setRow_other w g k D h
theorem Tch.setRow {w w1 : World} {T : Nat → Prop} (h : Tch w w1 T) (g : Nat) (D : Array Value) (hp : g < w.heap.size → T g) : Tch w (w1.setRow g D) T :=
  h.trans (U := fun k => k = g) ⟨rfl, rfl, rfl, by simp [World.setRow], fun k _ hn => setRow_heap_ne hn⟩ (fun b hb e => by subst e; exact hp hb)

theorem slice_lo (b o n m k : Nat) (E : Int) (hE : E = k) (hk : k ≤ n) (hm : k ≠ m) (W : World) :
    (Instr.slice 83 (.slice (some ⟨b, o, none⟩) n m) (some (.int .i64 E)) none none).run Try.prog W = .ok (.slice (some ⟨b, o + k, none⟩) (n - k) (m - k)) W := by
  obtain ⟨i0, hi, hz0, hz1, hz2⟩ := info_parts infoPtr
  subst hE
  have he : Try.prog.elem 83 = 50 := by unfold Program.elem; rw [Try.underlying83]
  rw [run_slice_l (P := Try.prog) W 83 (some ⟨b, o, none⟩) n m (by rw [he]; exact Try.underlying83) .i64 (k : Int) (by omega) (by omega)]
  simp [he, sizeOf, typeInfo, hi, hz1, sliced, hm.symm, Addr.add]

/-- The step of a walk at such a copy. -/
theorem wpList_copy_arr {W : World} {ops : Array Oper} {rest : List Oper} {o : Oper} {x : Act} {Q : Exit → Act → World → Prop} (hgd : o.guard = none) {d s : Operand}
    (ho : o.op = .call { callee := .builtin .copy, args := #[d, s], argTypes := #[83, 83] }) (g p dl dc a n : Nat) (hd : x.eval d = .slice (some ⟨g, p, none⟩) dl dc) (hs : x.eval s = .slice (some ⟨a, 0, none⟩) n n) (X A : List (Option Nat))
    (hX : W.heap[g]? = some (.cells (arrV X) 50 (0, 0))) (hA : W.heap[a]? = some (.cells (arrV A) 50 (0, 0))) (hn : A.length = n) (hdl : n ≤ dl) (hfit : p + n ≤ X.length)
    (h : ∀ W', W'.heap[g]? = some (.cells (arrV (X.take p ++ (A ++ X.drop (p + n)))) 50 (0, 0)) → (∀ k, k ≠ g → W'.heap[k]? = W.heap[k]?) → Tch W W' (fun k => k = g) → wpList Try.prog ops Q rest (x.put o.dst (goInt n)) W') :
    wpList Try.prog ops Q (o :: rest) x W := by
  have hrun := copy_arr W o.type g p dl dc a n X A hX hA hn hdl hfit
  refine wpList_plain hgd fun K hK => ?_
  unfold Oper.wp
  simp [execOp, ho, resolve, invoke, builtin, hd, hs, hrun, Result.andThen]
  exact hK _ _ (h _ (setRow_heap_same hX) (fun k hk => setRow_heap_ne hk) ((Tch.refl W _).setRow g _ (fun _ => rfl)))

/-- What is known of the dense list's struct in a world. -/
theorem dn_cells {w : World} {l : Nat} {mn mx nc hi : Int} {a n : Nat} (h : w.heap[l]? = some (dnObj mn mx nc hi a n)) :
    w.cell? ⟨l, 0, none⟩ = some (.int .i64 mn) ∧ w.cell? ⟨l, 1, none⟩ = some (.int .i64 mx) ∧ w.cell? ⟨l, 2, none⟩ = some (.int .i64 nc) ∧ w.cell? ⟨l, 3, none⟩ = some (.int .i64 hi) ∧
    w.cell? ⟨l, 4, none⟩ = some (.slice (some ⟨a, 0, none⟩) n n) ∧ ∀ i, w.frozen? ⟨l, i, none⟩ = false :=
  ⟨by rw [cell_of_block h]; rfl, by rw [cell_of_block h]; rfl, by rw [cell_of_block h]; rfl, by rw [cell_of_block h]; rfl, by rw [cell_of_block h]; rfl, fun i => free_of_block h i⟩

theorem one_get {n i c j d : Nat} (h : ((List.replicate n (none : Option Nat)).set i (some c))[j]? = some (some d)) : d = c ∧ j = i := by
  by_cases e : i = j
  · subst e
    by_cases hi : i < n
    · rw [List.getElem?_set_self (by simpa using hi)] at h
      simp at h
      exact ⟨h.symm, rfl⟩
    · rw [List.getElem?_eq_none (by simp; omega)] at h; cases h
  · rw [List.getElem?_set_ne e, List.getElem?_replicate] at h
    split at h <;> simp at h

theorem nones_filter {l : List (Option Nat)} (h : ∀ x, x ∈ l → x = none) : l.filterMap id = [] := by
  rw [List.filterMap_eq_nil_iff]
  intro x hx
  rw [h x hx]; rfl

theorem one_filter {n i c : Nat} (hi : i < n) : ((List.replicate n (none : Option Nat)).set i (some c)).filterMap id = [c] := by
  have h := filter_set (A := List.replicate n (none : Option Nat)) (i := i) (x := c) (by rw [List.getElem?_replicate, if_pos hi])
  rw [nones_filter (fun x hx => List.eq_of_mem_replicate hx)] at h
  exact List.perm_singleton.1 h

theorem one_drop {n i c p : Nat} (hi : i < n) (hp : p ≤ i) : (((List.replicate n (none : Option Nat)).set i (some c)).drop p).filterMap id = [c] := by
  have h := one_filter (c := c) hi
  rw [← List.take_append_drop p ((List.replicate n (none : Option Nat)).set i (some c)), List.filterMap_append, nones_filter] at h
  · simpa using h
  · intro x hx
    obtain ⟨j, hj⟩ := List.mem_iff_getElem?.1 hx
    rw [List.getElem?_take] at hj
    split at hj
    · cases x with
      | none => rfl
      | some d => have := (one_get hj).2; omega
    · cases hj

theorem one_take {n i c p : Nat} (hi : i < n) (hp : i < p) : (((List.replicate n (none : Option Nat)).set i (some c)).take p).filterMap id = [c] := by
  have h := one_filter (c := c) hi
  rw [← List.take_append_drop p ((List.replicate n (none : Option Nat)).set i (some c)), List.filterMap_append, nones_filter (l := List.drop p _)] at h
  · simpa using h
  · intro x hx
    obtain ⟨j, hj⟩ := List.mem_iff_getElem?.1 hx
    rw [List.getElem?_drop] at hj
    cases x with
    | none => rfl
    | some d => have := (one_get hj).2; omega

/-- A byte ahead of the least: a longer array. -/
theorem dn_low {w W W1 : World} {fb : Nat → UInt8} {l a mn hi c N : Nat} {arr : List (Option Nat)} (hraw : CLraw w (.dn l a mn hi arr)) (hp : (CL.dn l a mn hi arr).placed fb)
    (hlt : (fb c).toNat < mn) (h1 : mn + arr.length ≤ (fb c).toNat + N) (h2 : (fb c).toNat + N ≤ mn + arr.length)
    (hG : Hid (W.heap[w.heap.size]? = some (.cells (arrV (((List.replicate N none).set 0 (some c)).take (mn - (fb c).toNat) ++ (arr ++ ((List.replicate N none).set 0 (some c)).drop (mn - (fb c).toNat + arr.length)))) 50 (0, 0))))
    (hL : Hid (W.heap[l]? = some (dnObj mn ((mn : Int) + arr.length - 1) ((arr.filterMap id).length : Int) hi a arr.length))) (hT0 : Hid (Tch w W1 (fun _ => False))) (hT : Hid (Tch W1 W (fun k => k = w.heap.size))) :
    AddP w fb (.dn l a mn hi arr) c (.returned (.iface 145 (.pointer (some ⟨l, 0, none⟩))))
      ((((W.setCell ⟨l, 4, none⟩ (.slice (some ⟨w.heap.size, 0, none⟩) N N)).setCell ⟨l, 0, none⟩ (.int .i64 ((fb c).toNat : Int))).setCell ⟨l, 2, none⟩ (.int .i64 (((arr.filterMap id).length : Int) + 1))).setCell ⟨l, 3, none⟩ (.int .i64 0)) ∧
    (hi = 0 → AddP w fb (.dn l a mn hi arr) c (.returned (.iface 145 (.pointer (some ⟨l, 0, none⟩))))
      (((W.setCell ⟨l, 4, none⟩ (.slice (some ⟨w.heap.size, 0, none⟩) N N)).setCell ⟨l, 0, none⟩ (.int .i64 ((fb c).toNat : Int))).setCell ⟨l, 2, none⟩ (.int .i64 (((arr.filterMap id).length : Int) + 1)))) := by
  obtain ⟨hl, hcap, hhi, hnone, ha⟩ := hraw
  have hlw := lt_of_heap hl
  have hpos : 0 < N := by omega
  obtain ⟨arr', harr⟩ : ∃ A, ((List.replicate N none).set 0 (some c)).take (mn - (fb c).toNat) ++ arr = A := ⟨_, rfl⟩
  have htl : (((List.replicate N (none : Option Nat)).set 0 (some c)).take (mn - (fb c).toNat)).length = mn - (fb c).toNat := by simp; omega
  have hG' : W.heap[w.heap.size]? = some (.cells (arrV arr') 50 (0, 0)) := by
    have := hG.out
    rw [List.drop_eq_nil_of_le (by simp; omega), List.append_nil, harr] at this
    exact this
  have hlen : arr'.length = N := by rw [← harr, List.length_append, htl]; omega
  have hfil : arr'.filterMap id = c :: arr.filterMap id := by rw [← harr, List.filterMap_append, one_take hpos (by omega)]; rfl
  have hTT : Tch w W (fun k => k = l ∨ k = a) := (hT0.out.mono (fun _ _ h => h.elim)).trans hT.out (fun b hb e => by omega)
  have hlW := dn_set2 (dn_set0 (dn_set4 hL.out w.heap.size N) ((fb c).toNat : Int)) (((arr.filterMap id).length : Int) + 1)
  have hlW3 := dn_set3 hlW 0
  rw [← hlen] at hlW hlW3
  rw [← hlen]
  have hpl : ∀ (i d : Nat), arr'[i]? = some (some d) → (fb d).toNat = (fb c).toNat + i := by
    intro i d h
    rw [← harr] at h
    by_cases hi2 : i < mn - (fb c).toNat
    · rw [List.getElem?_append_left (by omega), List.getElem?_take, if_pos hi2] at h
      obtain ⟨rfl, h3⟩ := one_get h
      omega
    · rw [List.getElem?_append_right (by omega), htl] at h
      have := hp _ d h
      omega
  have hT3 := ((hTT.setCell ⟨l, 4, none⟩ (.slice (some ⟨w.heap.size, 0, none⟩) arr'.length arr'.length) (fun _ => .inl rfl)).setCell ⟨l, 0, none⟩ (.int .i64 ((fb c).toNat : Int)) (fun _ => .inl rfl)).setCell ⟨l, 2, none⟩ (.int .i64 (((arr.filterMap id).length : Int) + 1)) (fun _ => .inl rfl)
  refine ⟨?_, fun h0 => ?_⟩
  · refine dn_post w.heap.size (fb c).toNat 0 _ _ arr' (hT3.setCell ⟨l, 3, none⟩ (.int .i64 0) (fun _ => .inl rfl)) hlW3 ?_ (by omega) (by rw [hfil]; simp) (by omega) (by omega) (fun j hj => by omega) (by rw [hfil]) hpl (.inr (Nat.le_refl _))
    rw [heap_set_ne (by simp; omega), heap_set_ne (by simp; omega), heap_set_ne (by simp; omega), heap_set_ne (by simp; omega)]; exact hG'
  · subst h0
    refine dn_post w.heap.size (fb c).toNat 0 _ _ arr' hT3 hlW ?_ (by omega) (by rw [hfil]; simp) (by omega) (by omega) (fun j hj => by omega) (by rw [hfil]) hpl (.inr (Nat.le_refl _))
    rw [heap_set_ne (by simp; omega), heap_set_ne (by simp; omega), heap_set_ne (by simp; omega)]; exact hG'

/-- A byte behind the greatest: a longer array. -/
theorem dn_high {w W W0 : World} {fb : Nat → UInt8} {l a mn hi c N : Nat} {arr : List (Option Nat)} (hraw : CLraw w (.dn l a mn hi arr)) (hp : (CL.dn l a mn hi arr).placed fb)
    (hge : mn + arr.length ≤ (fb c).toNat) (h1 : (fb c).toNat + 1 ≤ mn + N) (h2 : mn + N ≤ (fb c).toNat + 1)
    (hG : Hid (W.heap[w.heap.size]? = some (.cells (arrV (((List.replicate N none).set ((fb c).toNat - mn) (some c)).take 0 ++ (arr ++ ((List.replicate N none).set ((fb c).toNat - mn) (some c)).drop (0 + arr.length)))) 50 (0, 0))))
    (hL : Hid (W.heap[l]? = some (dnObj mn ((mn : Int) + arr.length - 1) ((arr.filterMap id).length : Int) hi a arr.length))) (hT0 : Hid (Tch w W0 (fun _ => False))) (hT : Hid (Tch W0 W (fun k => k = w.heap.size))) :
    AddP w fb (.dn l a mn hi arr) c (.returned (.iface 145 (.pointer (some ⟨l, 0, none⟩))))
      (((W.setCell ⟨l, 4, none⟩ (.slice (some ⟨w.heap.size, 0, none⟩) N N)).setCell ⟨l, 1, none⟩ (.int .i64 ((fb c).toNat : Int))).setCell ⟨l, 2, none⟩ (.int .i64 (((arr.filterMap id).length : Int) + 1))) := by
  obtain ⟨hl, hcap, hhi, hnone, ha⟩ := hraw
  have hlw := lt_of_heap hl
  have h256 : (fb c).toNat < 256 := (fb c).toNat_lt
  have hidx : (fb c).toNat - mn < N := by omega
  obtain ⟨arr', harr⟩ : ∃ A, arr ++ ((List.replicate N none).set ((fb c).toNat - mn) (some c)).drop arr.length = A := ⟨_, rfl⟩
  have hG' : W.heap[w.heap.size]? = some (.cells (arrV arr') 50 (0, 0)) := by
    have := hG.out
    rw [List.take_zero, List.nil_append, Nat.zero_add, harr] at this
    exact this
  have hlen : arr'.length = N := by rw [← harr]; simp; omega
  have hfil : arr'.filterMap id = arr.filterMap id ++ [c] := by rw [← harr, List.filterMap_append, one_drop hidx (by omega)]
  have hTT : Tch w W (fun k => k = l ∨ k = a) := (hT0.out.mono (fun _ _ h => h.elim)).trans hT.out (fun b hb e => by omega)
  have hlW := dn_set2 (dn_set1 (dn_set4 hL.out w.heap.size N) ((fb c).toNat : Int)) (((arr.filterMap id).length : Int) + 1)
  rw [← hlen] at hlW
  rw [← hlen]
  refine dn_post w.heap.size mn hi _ _ arr' (((hTT.setCell _ _ (fun _ => .inl rfl)).setCell _ _ (fun _ => .inl rfl)).setCell _ _ (fun _ => .inl rfl)) hlW ?_ (by omega) (by rw [hfil]; simp) (by omega) (by omega) ?_ (by rw [hfil]; exact List.perm_append_comm) ?_ (.inr (Nat.le_refl _))
  · rw [heap_set_ne (by simp; omega), heap_set_ne (by simp; omega), heap_set_ne (by simp; omega)]; exact hG'
  · intro j hj
    rw [← harr, List.getElem?_append_left (by omega)]
    exact hnone j hj
  · intro i d h
    rw [← harr] at h
    by_cases hi2 : i < arr.length
    · rw [List.getElem?_append_left hi2] at h
      exact hp i d h
    · rw [List.getElem?_append_right (by omega), List.getElem?_drop] at h
      obtain ⟨rfl, h3⟩ := one_get h
      omega

set_option maxHeartbeats 6400000 in
set_option maxRecDepth 100000 in
theorem dn_add (w : World) (fb : Nat → UInt8) (l a mn hi : Nat) (arr : List (Option Nat)) (c : Nat) (hraw : CLraw w (.dn l a mn hi arr)) (hp : (CL.dn l a mn hi arr).placed fb) (hcb : FB w c (fb c))
    (hn : ∀ x, x ∈ arr.filterMap id → fb x ≠ fb c) :
    Calls Try.prog 144 #[ptr l, ptr c] w (AddP w fb (.dn l a mn hi arr) c) := by
  have HR := Lib.hid hraw
  obtain ⟨hl, hcap, hhi, hnone, ha⟩ := hraw
  have c0 : w.cell? ⟨l, 0, none⟩ = some (.int .i64 mn) := by rw [cell_of_block hl]; rfl
  have c1 : w.cell? ⟨l, 1, none⟩ = some (.int .i64 ((mn : Int) + arr.length - 1)) := by rw [cell_of_block hl]; rfl
  have c2 : w.cell? ⟨l, 2, none⟩ = some (.int .i64 (arr.filterMap id).length) := by rw [cell_of_block hl]; rfl
  have c3 : w.cell? ⟨l, 3, none⟩ = some (.int .i64 hi) := by rw [cell_of_block hl]; rfl
  have c4 : w.cell? ⟨l, 4, none⟩ = some (.slice (some ⟨a, 0, none⟩) arr.length arr.length) := by rw [cell_of_block hl]; rfl
  have hfl : (arr.filterMap id).length ≤ 256 := by
    have := List.length_filterMap_le id arr
    omega
  obtain ⟨sb, so, n, cp, d2, hn0, d3⟩ := hcb
  have hb256 : (fb c).toNat < 256 := (fb c).toNat_lt
  have hal : ¬ a = l := fun h => ne_of_type hl ha (by decide) h.symm
  have hla : ¬ l = a := fun h => hal h.symm
  have fl : ∀ i, w.frozen? ⟨l, i, none⟩ = false := fun i => free_of_block hl i
  have fa : ∀ i, w.frozen? ⟨a, i, none⟩ = false := fun i => free_of_block ha i
  have hac : ∀ i, w.cell? ⟨a, i, none⟩ = (arr[i]?).map optr := fun i => by rw [cell_of_block ha]; simp
  have HL := Lib.hid hl
  have HA := Lib.hid ha
  have HN := Lib.hid hn
  have HP := Lib.hid hp
  have HNO := Lib.hid hnone
  have HAC := Lib.hid hac
  have fl1 := fl 1
  have fl2 := fl 2
  have fl3 := fl 3
  have fl0 := fl 0
  have fl4 := fl 4
  clear hl ha hn hp hnone hac fl
  by_cases h1 : mn ≤ (fb c).toNat
  · by_cases h2 : (fb c).toNat < mn + arr.length
    · have hfree := dn_free HP.out HN.out h1 h2
      have c5 : w.cell? ⟨a, (fb c).toNat - mn, none⟩ = some (.pointer none) := by rw [HAC.out, hfree]; rfl
      have f5 := fa ((fb c).toNat - mn)
      have HF := Lib.hid hfree
      clear fa hfree
      have g1 : (mn : Int) ≤ ((fb c).toNat : Int) := by omega
      have g2 : ((fb c).toNat : Int) ≤ (mn : Int) + (arr.length : Int) - 1 := by omega
      have e1 : IntKind.i64.wrap (((fb c).toNat : Int) - (mn : Int)) = ((fb c).toNat : Int) - (mn : Int) := IntWalk.i64_in _ (by omega)
      have e2 : (0 : Int) ≤ ((fb c).toNat : Int) - (mn : Int) := by omega
      have e3 : (((fb c).toNat : Int) - (mn : Int)).toNat = (fb c).toNat - mn := by omega
      have e4 : ((fb c).toNat : Int) - (mn : Int) < (arr.length : Int) := by omega
      go_enter Try.func144, Try.ntmps144
      go_wp2_with fail
      go_quiet (fail)
      clear e1
      by_cases h4 : (fb c).toNat - mn < hi
      · have g5 : ((fb c).toNat : Int) - (mn : Int) < (hi : Int) := by omega
        go_wp2_with fail
        go_ret
        exact (dn_mid HR.out HP.out HF.out h1 rfl).2 h4
      · have g5 : ¬ ((fb c).toNat : Int) - (mn : Int) < (hi : Int) := by omega
        go_wp2_with fail
        go_ret
        exact (dn_mid HR.out HP.out HF.out h1 rfl).1 h4
    · -- behind the greatest
      have hge : mn + arr.length ≤ (fb c).toNat := by omega
      have g1 : (mn : Int) ≤ ((fb c).toNat : Int) := by omega
      have g2 : ¬ ((fb c).toNat : Int) ≤ (mn : Int) + (arr.length : Int) - 1 := by omega
      have g3 : ¬ ((fb c).toNat : Int) < (mn : Int) := by omega
      obtain ⟨N, hN⟩ : ∃ N, (fb c).toNat + 1 - mn = N := ⟨_, rfl⟩
      have hmk := mk_ptrs N (((fb c).toNat : Int) - (mn : Int) + 1) (by omega) (by omega)
      have HNN := Lib.hid hN
      have hN1 : (fb c).toNat + 1 ≤ mn + N := by omega
      have hN2 : mn + N ≤ (fb c).toNat + 1 := by omega
      clear hN
      have e2 : (0 : Int) ≤ ((fb c).toNat : Int) - (mn : Int) := by omega
      have e3 : (((fb c).toNat : Int) - (mn : Int)).toNat = (fb c).toNat - mn := by omega
      have e4 : ((fb c).toNat : Int) - (mn : Int) < (N : Int) := by omega
      have hlw : l < w.heap.size := World.block_lt_of_cell? w ⟨l, 0, none⟩ c0
      have haw : a < w.heap.size := lt_of_heap HA.out
      have k1 : (arrV (List.replicate N none))[(fb c).toNat - mn]? = some (.pointer none) := by
        rw [arrV_get, List.getElem?_replicate, if_pos (by omega)]; rfl
      clear fa
      have hX0 : (w.alloc (.cells ((arrV (List.replicate N none)).setIfInBounds ((fb c).toNat - mn) (.pointer (some ⟨c, 0, none⟩))) 50)).heap[w.heap.size]? = some (.cells (arrV ((List.replicate N none).set ((fb c).toNat - mn) (some c))) 50 (0, 0)) := by
        rw [heap_new, arrV_set]
      have hA0 : (w.alloc (.cells ((arrV (List.replicate N none)).setIfInBounds ((fb c).toNat - mn) (.pointer (some ⟨c, 0, none⟩))) 50)).heap[a]? = some (.cells (arrV arr) 50 (0, 0)) := heap_al HA.out
      have hL0 : (w.alloc (.cells ((arrV (List.replicate N none)).setIfInBounds ((fb c).toNat - mn) (.pointer (some ⟨c, 0, none⟩))) 50)).heap[l]? = some (dnObj mn ((mn : Int) + arr.length - 1) ((arr.filterMap id).length : Int) hi a arr.length) := heap_al HL.out
      have hT0 : Tch w (w.alloc (.cells ((arrV (List.replicate N none)).setIfInBounds ((fb c).toNat - mn) (.pointer (some ⟨c, 0, none⟩))) 50)) (fun _ => False) := (Tch.refl w _).alloc _
      have HX0 := Lib.hid hX0
      have HA0 := Lib.hid hA0
      have HL0 := Lib.hid hL0
      have HT0 := Lib.hid hT0
      clear hX0 hA0 hL0 hT0
      go_enter Try.func144, Try.ntmps144
      go_wp2_with ((with_reducible show wpList _ _ _ ((⟨some 39, _, _, _, _, _⟩ : Oper) :: _) _ _); refine wpList_copy_arr (o := ⟨some 39, _, _, _, _, _⟩) rfl rfl w.heap.size 0 N N a arr.length rfl rfl _ _ HX0.out HA0.out rfl (by omega) (by simp; omega) ?_; intro W hWg hWk hWT; have HG := Lib.hid hWg; have HK := Lib.hid hWk; have HT := Lib.hid hWT; have HWl : Hid (_ = _) := (hWk l (by omega)).trans HL0.out; obtain ⟨z0, z1, z2, z3, z4, z5⟩ := dn_cells HWl.out; have z50 := z5 0; have z51 := z5 1; have z52 := z5 2; have z53 := z5 3; have z54 := z5 4; clear hWg hWk hWT z5 c0 c1 c2 c3 c4 fl0 fl1 fl2 fl3 fl4 hmk k1)
      go_ret
      exact dn_high HR.out HP.out hge hN1 hN2 HG HWl HT0 HT
  · -- ahead of the least
    have hlt : (fb c).toNat < mn := by omega
    have g1 : ¬ (mn : Int) ≤ ((fb c).toNat : Int) := by omega
    have g3 : ((fb c).toNat : Int) < (mn : Int) := by omega
    obtain ⟨N, hN⟩ : ∃ N, mn + arr.length - (fb c).toNat = N := ⟨_, rfl⟩
    have hmk := mk_ptrs N ((mn : Int) + (arr.length : Int) - 1 - ((fb c).toNat : Int) + 1) (by omega) (by omega)
    have hN1 : mn + arr.length ≤ (fb c).toNat + N := by omega
    have hN2 : (fb c).toNat + N ≤ mn + arr.length := by omega
    clear hN
    have e1 : IntKind.i64.wrap ((mn : Int) - ((fb c).toNat : Int)) = (mn : Int) - ((fb c).toNat : Int) := IntWalk.i64_in _ (by omega)
    have e2 : (0 : Int) ≤ (mn : Int) - ((fb c).toNat : Int) := by omega
    have e3 : ((mn : Int) - ((fb c).toNat : Int)).toNat = mn - (fb c).toNat := by omega
    have e4 : (mn : Int) - ((fb c).toNat : Int) ≤ (N : Int) := by omega
    have e5 : ¬ N = mn - (fb c).toNat := by omega
    have hlw : l < w.heap.size := World.block_lt_of_cell? w ⟨l, 0, none⟩ c0
    have haw : a < w.heap.size := lt_of_heap HA.out
    have k1 : (arrV (List.replicate N none))[0]? = some (.pointer none) := by
      rw [arrV_get, List.getElem?_replicate, if_pos (by omega)]; rfl
    have k0 : 0 < N := by omega
    clear fa
    have hX0 : (w.alloc (.cells ((arrV (List.replicate N none)).setIfInBounds 0 (.pointer (some ⟨c, 0, none⟩))) 50)).heap[w.heap.size]? = some (.cells (arrV ((List.replicate N none).set 0 (some c))) 50 (0, 0)) := by
      rw [heap_new, arrV_set]
    have hA0 : (w.alloc (.cells ((arrV (List.replicate N none)).setIfInBounds 0 (.pointer (some ⟨c, 0, none⟩))) 50)).heap[a]? = some (.cells (arrV arr) 50 (0, 0)) := heap_al HA.out
    have hL0 : (w.alloc (.cells ((arrV (List.replicate N none)).setIfInBounds 0 (.pointer (some ⟨c, 0, none⟩))) 50)).heap[l]? = some (dnObj mn ((mn : Int) + arr.length - 1) ((arr.filterMap id).length : Int) hi a arr.length) := heap_al HL.out
    have hT0 : Tch w (w.alloc (.cells ((arrV (List.replicate N none)).setIfInBounds 0 (.pointer (some ⟨c, 0, none⟩))) 50)).drew (fun _ => False) := ((Tch.refl w _).alloc _).drw
    obtain ⟨W1, hW1⟩ : ∃ W1, (w.alloc (.cells ((arrV (List.replicate N none)).setIfInBounds 0 (.pointer (some ⟨c, 0, none⟩))) 50)).drew = W1 := ⟨_, rfl⟩
    have HX0 : Hid (W1.heap[w.heap.size]? = some (.cells (arrV ((List.replicate N none).set 0 (some c))) 50 (0, 0))) := by rw [← hW1]; exact hX0
    have HA0 : Hid (W1.heap[a]? = some (.cells (arrV arr) 50 (0, 0))) := by rw [← hW1]; exact hA0
    have HL0 : Hid (W1.heap[l]? = some (dnObj mn ((mn : Int) + arr.length - 1) ((arr.filterMap id).length : Int) hi a arr.length)) := by rw [← hW1]; exact hL0
    have HT0 : Hid (Tch w W1 (fun _ => False)) := by rw [← hW1]; exact hT0
    have HW1 := Lib.hid hW1
    obtain ⟨y0, y1, y2, y3, y4, y5⟩ := dn_cells HL0.out
    have hsl := slice_lo w.heap.size 0 N N (mn - (fb c).toNat) ((mn : Int) - ((fb c).toNat : Int)) (by omega) (by omega) (by omega)
    clear hX0 hA0 hL0 hT0 hW1 y5
    go_enter Try.func144, Try.ntmps144
    go_wp2_with fail
    refine wp_region_tail 12 (by kernel_rfl) (by kernel_rfl) HW1.out ?_
    simp only [List.take_succ_cons, List.take_zero, List.drop_succ_cons, List.drop_zero]
    repeat still_step
    refine wpStill_nil ?_
    go_wp2_with ((with_reducible show wpList _ _ _ ((⟨some 121, _, _, _, _, _⟩ : Oper) :: _) _ _); refine wpList_copy_arr (o := ⟨some 121, _, _, _, _, _⟩) rfl rfl w.heap.size (mn - (fb c).toNat) (N - (mn - (fb c).toNat)) (N - (mn - (fb c).toNat)) a arr.length rfl rfl _ _ HX0.out HA0.out rfl (by omega) (by simp; omega) ?_; intro W hWg hWk hWT; have HG := Lib.hid hWg; have HK := Lib.hid hWk; have HT := Lib.hid hWT; have HWl : Hid (_ = _) := (hWk l (by omega)).trans HL0.out; obtain ⟨z0, z1, z2, z3, z4, z5⟩ := dn_cells HWl.out; have z50 := z5 0; have z51 := z5 1; have z52 := z5 2; have z53 := z5 3; have z54 := z5 4; clear hWg hWk hWT z5 c0 c1 c2 c3 c4 fl0 fl1 fl2 fl3 fl4 hmk k1 y0 y1 y2 y3 y4 hsl e1 e2 e3 e4 e5)
    · go_ret
      exact (dn_low HR.out HP.out hlt hN1 hN2 HG HWl HT0 HT).1
    · go_ret
      exact (dn_low HR.out HP.out hlt hN1 hN2 HG HWl HT0 HT).2 (by omega)

/-- add of a list of children. -/
theorem add_any (w : World) (fb : Nat → UInt8) (cl : CL) (c : Nat) (hraw : CLraw w cl) (hkb : KB w fb cl) (hcb : FB w c (fb c)) (hn : ∀ x, x ∈ cl.kids → fb x ≠ fb c) :
    Calls Try.prog (cl.fn 112 144) #[ptr cl.l, ptr c] w (AddP w fb cl c) := by
  cases cl with
  | sp l a cap ks =>
    have hk : (CL.sp l a cap ks).kids = ks := rfl
    by_cases h : ks.length = cap
    · refine sp_add_full w fb l a cap ks c hraw h hkb.rd hcb ?_ ?_
      · intro x y hx hy e
        rcases List.mem_cons.1 hx with h1 | hx <;> rcases List.mem_cons.1 hy with h2 | hy
        · rw [h1, h2]
        · exact absurd e.symm (by rw [h1]; exact hn y hy)
        · exact absurd e (by rw [h2]; exact hn x hx)
        · exact hkb.ne x y hx hy e
      · exact List.nodup_cons.2 ⟨fun hm => hn c hm rfl, hkb.nodup⟩
    · exact sp_add_room w fb l a cap ks c hraw (by have := hraw.2.1; omega)
  | dn l a mn hi arr => exact dn_add w fb l a mn hi arr c hraw hkb.placed hcb hn

end Go.Proofs.Ytmdbnjepajifpaa
