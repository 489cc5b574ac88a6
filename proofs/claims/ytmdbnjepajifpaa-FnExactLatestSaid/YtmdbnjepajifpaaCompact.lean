/- compact returns the node itself, or its one child with the two parts of the key joined. -/
import Derived.Test.YtmdbnjepajifpaaNewTrie
import Derived.Deep.RegionLawGrows
namespace Go.Proofs.Ytmdbnjepajifpaa
open Go.RowKit

theorem infoByte : (Try.prog.info? 5).map (fun i => (i.zero, i.size, i.bytes)) = some (some (.int .u8 0), 1, 1) := by kernel_rfl

/-- Bytes as cells. -/
def bytesV (l : List UInt8) : List Value := l.map (fun b => .int .u8 (b.toNat : Int))

theorem bytesV_len (l : List UInt8) : (bytesV l).length = l.length := by simp [bytesV]
theorem bytesV_get (l : List UInt8) (i : Nat) (u : Value) (h : (bytesV l)[i]? = some u) : i < l.length ∧ u = .int .u8 ((l.getD i 0).toNat : Int) := by
  simp only [bytesV, List.getElem?_map, Option.map_eq_some_iff] at h
  obtain ⟨b, hb, rfl⟩ := h
  refine ⟨(List.getElem?_eq_some_iff.1 hb).1, ?_⟩
  rw [List.getD_eq_getElem?_getD, hb]; rfl
theorem bytesV_at (l : List UInt8) (i : Nat) (h : i < l.length) : (bytesV l)[i]? = some (.int .u8 ((l.getD i 0).toNat : Int)) := by
  simp [bytesV, List.getD_eq_getElem?_getD, h]
theorem bytesV_one (l : List UInt8) : ∀ u, u ∈ bytesV l → u.oneCell' = true := by
  intro u hu
  simp only [bytesV, List.mem_map] at hu
  obtain ⟨b, _, rfl⟩ := hu
  rfl

theorem setCells_heap (b : Nat) (t : TypeId) (fr : Nat × Nat) : ∀ (vs : List Value) (o : Nat) (w : World) (C : Array Value), w.heap[b]? = some (.cells C t fr) →
    ∃ C', (w.setCells b o vs).heap[b]? = some (.cells C' t fr) ∧ C'.size = C.size ∧ (∀ i, i < o ∨ o + vs.length ≤ i → C'[i]? = C[i]?) ∧ (∀ i u, o + i < C.size → vs[i]? = some u → C'[o + i]? = some u)
  | [], _, _, C, h => ⟨C, h, rfl, fun _ _ => rfl, fun i u _ hu => by simp at hu⟩
  | v :: r, o, w, C, h => by
    obtain ⟨C', h1, h2, h3, h4⟩ := setCells_heap b t fr r (o + 1) (w.setCell ⟨b, o, none⟩ v) (C.setIfInBounds o v) (heap_set h v)
    refine ⟨C', h1, by simpa using h2, fun i hi => ?_, fun i u hi hu => ?_⟩
    · rw [h3 i (by simp at hi ⊢; omega), Array.getElem?_setIfInBounds_ne (by simp at hi; omega)]
    · cases i with
      | zero =>
        simp at hu; subst hu
        rw [h3 (o + 0) (by omega)]
        rw [Nat.add_zero, Array.getElem?_setIfInBounds_self, if_pos (by omega)]
      | succ i =>
        have := h4 i u (by simp; omega) (by simpa using hu)
        rw [show o + (i + 1) = o + 1 + i by omega]
        exact this
theorem setCells_heap_ne (b : Nat) : ∀ (vs : List Value) (o : Nat) (w : World) (k : Nat), k ≠ b → (w.setCells b o vs).heap[k]? = w.heap[k]?
  | [], _, _, _, _ => rfl
  | v :: r, o, w, k, h => by rw [World.setCells, setCells_heap_ne b r _ _ k h, heap_set_ne h]
theorem setCells_meta (b : Nat) : ∀ (vs : List Value) (o : Nat) (w : World), (w.setCells b o vs).os = w.os ∧ (w.setCells b o vs).tape = w.tape ∧ (w.setCells b o vs).output = w.output ∧ (w.setCells b o vs).heap.size = w.heap.size
  | [], _, _ => ⟨rfl, rfl, rfl, rfl⟩
  | v :: r, o, w => by
    obtain ⟨h1, h2, h3, h4⟩ := setCells_meta b r (o + 1) (w.setCell ⟨b, o, none⟩ v)
    exact ⟨h1, h2, h3, by rw [World.setCells, h4]; simp⟩

/-- An append of bytes to bytes: in place, or in a new block. -/
def AppR (w0 : World) (b off n cap : Nat) (olds news : List UInt8) (b' o' cap' : Nat) (w' : World) : Prop :=
  Tch w0 w' (fun k => k = b) ∧
  ((n + news.length ≤ cap ∧ b' = b ∧ o' = off ∧ cap' = cap ∧ ∀ C fr, w0.heap[b]? = some (.cells C 5 fr) → ∃ C', w'.heap[b]? = some (.cells C' 5 fr) ∧ C'.size = C.size ∧ (∀ i, i < off + n ∨ off + n + news.length ≤ i → C'[i]? = C[i]?) ∧
      (∀ i, i < news.length → C'[off + n + i]? = some (.int .u8 ((news.getD i 0).toNat : Int)))) ∨
   (w0.heap.size ≤ b' ∧ o' = 0 ∧ n + news.length ≤ cap' ∧ Tch w0 w' (fun _ => False) ∧ ∃ C, w'.heap[b']? = some (.cells C 5 (0, 0)) ∧ C.size = cap' ∧ ∀ i, i < (olds ++ news).length → C[i]? = some (.int .u8 (((olds ++ news).getD i 0).toNat : Int))))

set_option maxRecDepth 100000 in
theorem step_append_bytes {ops : Array Oper} {o : Oper} {a : Act} {W : World} {K : Act → World → Prop} {Q : Exit → Act → World → Prop} {E : Prop} (hg : o.guard = none) (s x : Operand)
    (hop : o.op = Op.call { callee := Callee.builtin Builtin.append, args := #[s, x], argTypes := #[53, 53] }) (w0 : World) (hsame : W.heap = w0.heap ∧ W.os = w0.os ∧ W.tape = w0.tape ∧ W.output = w0.output)
    (b off n cap : Nat) (hs : a.eval s = .slice (some ⟨b, off, none⟩) n cap) (olds : List UInt8) (hn : olds.length = n) (xb xo m xc : Nat) (hx : a.eval x = .slice (some ⟨xb, xo, none⟩) m xc) (news : List UInt8) (hm : news.length = m)
    (hpos : 0 < n + m) (ho : KS w0 b off olds) (hnw : KS w0 xb xo news) (hblk : ∃ (C : Array Value) (fr : Nat × Nat), w0.heap[b]? = some (.cells C 5 fr) ∧ off + cap ≤ C.size ∧ (∀ i, i < C.size → w0.frozen? ⟨b, i, none⟩ = false)) (hsz : n + m ≤ 100000)
    (hK : ∀ b' o' cap' w', AppR w0 b off n cap olds news b' o' cap' w' → K (a.put o.dst (.slice (some ⟨b', o', none⟩) (n + m) cap')) w') :
    if Region.wanted o (yielded ops a.tmps) = true then Oper.wp Try.prog o a W K Q else E := by
  obtain ⟨i0, hi, hz0, hz1, hz2⟩ := info_parts infoByte
  obtain ⟨s1, s2, s3, s4⟩ := hsame
  obtain ⟨C, fr, hC1, hC2, hC3⟩ := hblk
  have cW : ∀ p, W.cell? p = w0.cell? p := fun p => by simp [World.cell?, s1]
  have fW : ∀ p, W.frozen? p = w0.frozen? p := fun p => by simp [World.frozen?, s1]
  have T0 : ∀ T, Tch w0 W T := fun T => ⟨s2, s3, s4, by rw [s1]; exact Nat.le_refl _, fun k _ _ => by rw [s1]⟩
  subst hn
  subst hm
  by_cases hroom : olds.length + news.length ≤ cap
  · refine step_append_room hg s x 53 hop 5 i0 1 Try.underlying53 hi hz1 b off olds.length cap hs ⟨xb, xo, none⟩ news.length xc (bytesV news) hx (by rw [bytesV_len]; omega) ?_ (bytesV_one _) hroom ?_ ?_
    · intro j u hj
      obtain ⟨hlt, rfl⟩ := bytesV_get _ _ _ hj
      rw [Addr.add_lit, cW]
      exact hnw j hlt
    · intro j hj
      rw [bytesV_len] at hj
      rw [cW, fW, Nat.mul_one, cell_of_block hC1, Array.getElem?_eq_getElem (by omega)]
      exact ⟨rfl, hC3 _ (by omega)⟩
    · obtain ⟨m1, m2, m3, m4⟩ := setCells_meta b (bytesV news) (off + olds.length * 1) W
      refine hK b off cap _ ⟨⟨m1.trans s2, m2.trans s3, m3.trans s4, by rw [m4, s1]; exact Nat.le_refl _, fun k _ hk => by rw [setCells_heap_ne b _ _ _ k hk, s1]⟩, .inl ⟨hroom, rfl, rfl, rfl, fun C2 fr2 h2 => ?_⟩⟩
      rw [hC1] at h2
      injection h2 with h2
      injection h2 with e1 _ e2
      subst e1 e2
      obtain ⟨C', h1, h2, h3, h4⟩ := setCells_heap b 5 fr (bytesV news) (off + olds.length * 1) W C (by rw [s1]; exact hC1)
      rw [Nat.mul_one] at h1 h3 h4
      rw [Nat.mul_one]
      refine ⟨C', h1, h2, fun i hi => h3 i (by rw [bytesV_len]; exact hi), fun i hi => h4 i _ (by omega) (bytesV_at _ _ hi)⟩
  · refine step_append_grows hg s x 53 hop 5 i0 (.int .u8 0) 1 1 Try.underlying53 hi hz0 hz1 hz2 rfl (by decide) (some ⟨b, off, none⟩) olds.length cap (bytesV olds) hs (by simp) (by rw [bytesV_len]; omega) ?_ ⟨xb, xo, none⟩ news.length xc (bytesV news) hx (by rw [bytesV_len]; omega) ?_ (bytesV_one _) (by omega) (by unfold maxLen; omega) (by omega) ?_
    · intro b2 hb2 j u hj
      obtain ⟨hlt, rfl⟩ := bytesV_get _ _ _ hj
      injection hb2 with hb2
      subst hb2
      rw [Addr.add_lit, cW]
      exact ho j hlt
    · intro j u hj
      obtain ⟨hlt, rfl⟩ := bytesV_get _ _ _ hj
      rw [Addr.add_lit, cW]
      exact hnw j hlt
    · intro v' w' hown hgrow
      rcases hown.2 with ⟨_, h0⟩ | ⟨g, cap', cur, rfl, hg2, hh, hnc, _, hcs, htk⟩
      · omega
      · rw [s1] at hg2
        have T1 : ∀ T, Tch w0 w' T := fun T => (T0 T).grown hgrow (fun b hb => by cases hb)
        refine hK g 0 cap' w' ⟨T1 _, .inr ⟨hg2, rfl, hnc, T1 _, cur, hh, by omega, fun i hi => ?_⟩⟩
        have hb : bytesV olds ++ bytesV news = bytesV (olds ++ news) := by simp [bytesV]
        rw [hb, Nat.mul_one] at htk
        have h1 := bytesV_at (olds ++ news) i hi
        rw [← htk, List.getElem?_take] at h1
        split at h1
        · simpa using h1
        · cases h1

/-- The joined child: where its bytes lie now. -/
def joined (d dc : Nd) (sb so sc : Nat) : Nd := { dc with np := false, sb := sb, so := so, sc := sc, px := d.px ++ dc.px }

/-- What compact leaves where it joins: the child's first cell is another slice; its bytes lie behind the node's own, in the node's block, or in a new block. -/
def JoinP (w : World) (p c : Nat) (d dc : Nd) (e : Ending) (w' : World) : Prop :=
  e = .returned (ptr c) ∧ d.cl.kids = [c] ∧ d.it = none ∧ dc.it = none ∧
    ((d.px.length + dc.px.length ≤ d.sc ∧ w'.heap[c]? = some (joined d dc d.sb d.so d.sc).obj ∧
        (∀ C fr, w.heap[d.sb]? = some (.cells C 5 fr) → ∃ C', w'.heap[d.sb]? = some (.cells C' 5 fr) ∧ C'.size = C.size ∧ (∀ i, i < d.so + d.px.length ∨ d.so + d.px.length + dc.px.length ≤ i → C'[i]? = C[i]?) ∧
          ∀ i, i < dc.px.length → C'[d.so + d.px.length + i]? = some (.int .u8 ((dc.px.getD i 0).toNat : Int))) ∧
        Tch w w' (fun k => k = c ∨ k = d.sb)) ∨
     (∃ g cap C, w.heap.size ≤ g ∧ d.px.length + dc.px.length ≤ cap ∧ w'.heap[c]? = some (joined d dc g 0 cap).obj ∧ w'.heap[g]? = some (.cells C 5 (0, 0)) ∧ C.size = cap ∧
        (∀ i, i < (d.px ++ dc.px).length → C[i]? = some (.int .u8 (((d.px ++ dc.px).getD i 0).toNat : Int))) ∧ Tch w w' (fun k => k = c)))

def CompactP (w : World) (p : Nat) (d : Nd) (nd : Nat → Nd) (e : Ending) (w' : World) : Prop :=
  (e = .returned (ptr p) ∧ ∃ n, w' = w.drewN n) ∨ ∃ c, JoinP w p c d (nd c) e w'

theorem ret_self {w : World} {p : Nat} {d : Nd} {nd : Nat → Nd} {v : Value} (n : Nat) (hv : v = ptr p) : CompactP w p d nd (.returned v) (w.drewN n) := .inl ⟨by rw [hv], n, rfl⟩

theorem ret_self' {w w' : World} {p : Nat} {d : Nd} {nd : Nat → Nd} {v : Value} (hv : v = ptr p) (hw : ∃ n, w' = w.drewN n) : CompactP w p d nd (.returned v) w' := .inl ⟨by rw [hv], hw⟩

theorem join_post {w w' : World} {p c b' o' cap' : Nat} {d : Nd} {nd : Nat → Nd} (HC : Hid (d.cl.kids = [c])) (Hit : Hid (d.it = none)) (Hict : Hid ((nd c).it = none)) (Hc : Hid (HN w c (nd c))) (Hcn : Hid ((nd c).np = false))
    (HBK : Hid (∃ (C : Array Value) (fr : Nat × Nat), w.heap[d.sb]? = some (.cells C 5 fr) ∧ d.so + d.sc ≤ C.size ∧ (∀ i, i < C.size → w.frozen? ⟨d.sb, i, none⟩ = false)))
    (HR : Hid (AppR w d.sb d.so d.px.length d.sc d.px (nd c).px b' o' cap' w')) (HQ : Hid (w'.heap[c]? = some (nd c).obj)) (hcb : c ≠ d.sb) :
    CompactP w p d nd (.returned (.pointer (some ⟨c, 0, none⟩))) (w'.setCell ⟨c, 0, none⟩ (.slice (some ⟨b', o', none⟩) (d.px.length + (nd c).px.length) cap')) := by
  have hobj : (w'.setCell ⟨c, 0, none⟩ (.slice (some ⟨b', o', none⟩) (d.px.length + (nd c).px.length) cap')).heap[c]? = some (joined d (nd c) b' o' cap').obj := by
    have := heap_set (i := 0) HQ.out (.slice (some ⟨b', o', none⟩) (d.px.length + (nd c).px.length) cap')
    rw [this]
    unfold Nd.obj joined Nd.pv
    simp
  refine .inr ⟨c, rfl, HC.out, Hit.out, Hict.out, ?_⟩
  obtain ⟨hT, hcase⟩ := HR.out
  rcases hcase with ⟨hroom, rfl, rfl, rfl, hC⟩ | ⟨hg, rfl, hcap, hT2, C, hC1, hC2, hC3⟩
  · refine .inl ⟨hroom, hobj, fun C fr h => ?_, (hT.mono (fun _ _ h => .inr h)).setCell _ _ (fun _ => .inl rfl)⟩
    obtain ⟨C', h1, h2, h3, h4⟩ := hC C fr h
    exact ⟨C', by rw [heap_set_ne (fun h => hcb h.symm)]; exact h1, h2, h3, h4⟩
  · have hcl := lt_of_heap Hc.out.obj
    exact .inr ⟨b', cap', C, hg, hcap, hobj, by rw [heap_set_ne (by omega)]; exact hC1, hC2, hC3, (hT2.mono (fun _ _ h => h.elim)).setCell _ _ (fun _ => rfl)⟩

theorem head_q (w : World) (cl : CL) (c : Nat) (hraw : CLraw w cl) (hc : cl.kids = [c]) :
    ∃ x, (x = none ∨ x = some c) ∧ ∀ n, Calls Try.prog (cl.fn 114 146) #[ptr cl.l] (w.drewN n) (RetD (optr x) (w.drewN n)) := by
  cases cl with
  | sp l a cap ks =>
    have : ks = [c] := hc
    subst this
    exact ⟨some c, .inr rfl, fun n => sp_head _ l a cap c (hraw.dr n)⟩
  | dn l a mn hi arr =>
    obtain ⟨x, hx⟩ : ∃ x, arr[hi]? = some x := ⟨_, List.getElem?_eq_getElem hraw.2.2.1⟩
    refine ⟨x, ?_, fun n => dn_head' _ l a mn hi arr x (hraw.dr n) hx⟩
    cases x with
    | none => exact .inl rfl
    | some d =>
      right
      have : d ∈ [c] := by rw [← hc]; show d ∈ arr.filterMap id; simp only [List.mem_filterMap, id]; exact ⟨some d, List.mem_of_getElem? hx, rfl⟩
      simp at this
      rw [this]

set_option maxHeartbeats 3200000 in
set_option maxRecDepth 100000 in
theorem compact_any (w : World) (p : Nat) (d : Nd) (nd : Nat → Nd) (h : HN w p d) (hnp : d.np = false) (hk : ∀ c, c ∈ d.cl.kids → HN w c (nd c) ∧ (nd c).np = false ∧ c ≠ p ∧ (nd c).px.length ≤ 1000 ∧ (nd c).px ≠ []) (hl : d.px.length ≤ 1000) :
    Calls Try.prog 68 #[ptr p] w (CompactP w p d nd) := by
  have hlen := len_q w d.cl h.raw
  have c0 := h.sl hnp
  have c1 := h.c1
  have c2 := h.c2
  have c4 := h.c4
  unfold CL.val at c4
  have m1 := m_length d.cl
  have m2 := f_length d.cl
  have m3 := m_head d.cl
  have m4 := f_head d.cl
  by_cases h1 : d.cl.kids.length = 1
  · obtain ⟨c, hc⟩ : ∃ c, d.cl.kids = [c] := List.length_eq_one_iff.1 h1
    obtain ⟨x, hx, hhead⟩ := head_q w d.cl c h.raw hc
    have g1 : ((d.cl.kids.length : Int) != 1) = false := by rw [bne_eq_false_iff_eq]; omega
    have HLEN := Lib.hid hlen
    have HHEAD := Lib.hid hhead
    have HC := Lib.hid hc
    clear hlen hhead
    rcases hx with rfl | rfl
    · clear hk
      go_enter Try.func68, Try.ntmps68
      go_wp2_with fail
      refine (HLEN.out 0).mono ?_
      rintro e w' ⟨rfl, n1, rfl⟩
      go_wp2_with fail
      refine (HHEAD.out _).mono ?_
      rintro e w' ⟨rfl, n2, rfl⟩
      go_wp2_with fail
      go_ret
      exact ret_self _ rfl
    · obtain ⟨hcN, hcnp, hcp, hcl, hcx⟩ := hk c (by rw [hc]; simp)
      have hcpos : 0 < (nd c).px.length := List.length_pos_iff.2 hcx
      have d0 := hcN.sl hcnp
      have d1 := hcN.c1
      have hpc : ¬ p = c := fun h => hcp h.symm
      have Hh := Lib.hid h
      have Hc := Lib.hid hcN
      have Hhn := Lib.hid hnp
      have Hcn := Lib.hid hcnp
      clear hk h hcN hnp hcnp h1 hc
      cases hit : d.it with
      | some v =>
        rw [hit] at c1
        simp only [itv] at c1
        have Hit := Lib.hid hit
        clear hit
        go_enter Try.func68, Try.ntmps68
        go_wp2_with fail
        refine (HLEN.out 0).mono ?_
        rintro e w' ⟨rfl, n1, rfl⟩
        go_wp2_with fail
        refine (HHEAD.out _).mono ?_
        rintro e w' ⟨rfl, n2, rfl⟩
        go_wp2_with fail
        go_ret
        exact ret_self _ rfl
      | none =>
        rw [hit] at c1
        simp only [itv] at c1
        have Hit := Lib.hid hit
        clear hit
        cases hict : (nd c).it with
        | some v =>
          rw [hict] at d1
          simp only [itv] at d1
          have Hict := Lib.hid hict
          clear hict
          go_enter Try.func68, Try.ntmps68
          go_wp2_with fail
          refine (HLEN.out 0).mono ?_
          rintro e w' ⟨rfl, n1, rfl⟩
          go_wp2_with fail
          refine (HHEAD.out _).mono ?_
          rintro e w' ⟨rfl, n2, rfl⟩
          go_wp2_with fail
          go_ret
          exact ret_self _ rfl
        | none =>
          rw [hict] at d1
          simp only [itv] at d1
          have Hict := Lib.hid hict
          clear hict
          have e1 : IntKind.i64.wrap ((d.px.length : Int) + ((nd c).px.length : Int)) = (d.px.length : Int) + ((nd c).px.length : Int) := IntWalk.i64_in _ (by omega)
          by_cases h5 : d.mp < (d.px.length : Int) + ((nd c).px.length : Int)
          · go_enter Try.func68, Try.ntmps68
            go_wp2_with fail
            refine (HLEN.out 0).mono ?_
            rintro e w' ⟨rfl, n1, rfl⟩
            go_wp2_with fail
            refine (HHEAD.out _).mono ?_
            rintro e w' ⟨rfl, n2, rfl⟩
            go_wp2_with fail
            go_quiet (fail)
            go_wp2_with fail
            go_ret
            exact ret_self' rfl ⟨_, World.drewN_drewN _ _ _⟩
          · go_enter Try.func68, Try.ntmps68
            go_wp2_with fail
            refine (HLEN.out 0).mono ?_
            rintro e w' ⟨rfl, n1, rfl⟩
            go_wp2_with fail
            refine (HHEAD.out _).mono ?_
            rintro e w' ⟨rfl, n2, rfl⟩
            go_wp2_with fail
            go_quiet (fail)
            go_wp2_with fail
            have hsrc := Hh.out.ks Hhn.out
            have hsrc2 := Hc.out.ks Hcn.out
            have HB := Hh.out.blk Hhn.out
            obtain ⟨C, fr, b1, b2, b3, _⟩ := HB
            have HBK : Hid (∃ (C : Array Value) (fr : Nat × Nat), w.heap[d.sb]? = some (.cells C 5 fr) ∧ d.so + d.sc ≤ C.size ∧ (∀ i, i < C.size → w.frozen? ⟨d.sb, i, none⟩ = false)) := (⟨C, fr, b1, b2, b3⟩ : ∃ (C : Array Value) (fr : Nat × Nat), w.heap[d.sb]? = some (.cells C 5 fr) ∧ d.so + d.sc ≤ C.size ∧ (∀ i, i < C.size → w.frozen? ⟨d.sb, i, none⟩ = false))
            have HS1 := Lib.hid hsrc
            have HS2 := Lib.hid hsrc2
            have hcb : c ≠ d.sb := ne_of_type Hc.out.obj b1 (by decide)
            have HCO := Lib.hid Hc.out.obj
            have hpb : p ≠ d.sb := ne_of_type Hh.out.obj b1 (by decide)
            have HPO := Lib.hid Hh.out.obj
            have HP1 : Hid (#[d.pv, itv d.it, .int .i64 d.mp, .int .i64 d.mc, d.cl.val][1]? = some Value.nilIface) := by show some (itv d.it) = _; rw [Hit.out]; rfl
            clear hsrc hsrc2 b1 b2 b3 m1 m2 m3 m4 e1
            go_region_law (refine step_append_bytes rfl (.tmp 54) (.tmp 58) rfl w ⟨rfl, rfl, rfl, rfl⟩ d.sb d.so d.px.length d.sc rfl d.px rfl (nd c).sb (nd c).so (nd c).px.length (nd c).sc rfl (nd c).px rfl (by omega) HS1.out HS2.out HBK.out (by omega) ?_; intro b' o' cap' w' hR; have q1 : w'.heap[c]? = some (nd c).obj := (hR.1.keep c (lt_of_heap HCO.out) hcb).trans HCO.out; have q2 : w'.cell? ⟨c, 0, none⟩ = some (nd c).pv := (by rw [cell_of_block q1]; rfl); have q3 := free_of_block q1 0; have q4 : w'.cell? ⟨p, 1, none⟩ = some .nilIface := (by rw [cell_of_block ((hR.1.keep p (lt_of_heap HPO.out) hpb).trans HPO.out)]; exact HP1.out); have HR := Lib.hid hR; have HQ := Lib.hid q1; clear hR q1)
            go_wp2_with fail
            all_goals
              go_ret
              exact join_post HC Hit Hict Hc Hcn HBK HR HQ hcb
  · have g1 : ((d.cl.kids.length : Int) != 1) = true := by rw [bne_iff_ne]; omega
    have HLEN := Lib.hid hlen
    clear hlen hk
    go_enter Try.func68, Try.ntmps68
    go_wp2_with fail
    refine (HLEN.out 0).mono ?_
    rintro e w' ⟨rfl, n1, rfl⟩
    go_wp2_with fail
    go_ret
    exact ret_self _ rfl

end Go.Proofs.Ytmdbnjepajifpaa
