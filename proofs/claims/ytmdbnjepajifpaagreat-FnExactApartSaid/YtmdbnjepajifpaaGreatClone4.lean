/- Clone of a node, of a trie. -/
import Derived.Test.YtmdbnjepajifpaaGreatClone2
import Derived.Test.YtmdbnjepajifpaaGreatClone3
import Derived.Test.YtmdbnjepajifpaaGreatC2
import Derived.Deep.RegionHeld3
import Derived.Deep.RegionLaw
set_option linter.unusedVariables false
set_option linter.unusedSimpArgs false
namespace Go.Proofs.YtmdbnjepajifpaaGreat
open Go.RowKit

theorem m_clone (cl : CL) (w : World) : (method 258 cl.ty (.pointer (some ⟨cl.l, 0, none⟩)) "loop.example/pub-patriciatries/pub/patricia.clone").run Tryz.prog w = .ok (cl.fn 87 119, .pointer (some ⟨cl.l, 0, none⟩)) w := by
  cases cl <;> kernel_rfl
theorem f_clone (cl : CL) (args : Array Value) (w : World) : (callFunc (cl.fn 87 119) args).run Tryz.prog w = .ok (.enter (cl.fn 87 119) args) w := by
  cases cl <;> kernel_rfl

/-- Bytes appended to nothing. -/
def ApN (W : World) (px : List UInt8) (v : Value) (w' : World) : Prop :=
  Tch W w' (fun _ => False) ∧ ((px = [] ∧ v = .slice none 0 0) ∨ (px ≠ [] ∧ ∃ b cap, v = .slice (some ⟨b, 0, none⟩) px.length cap ∧ W.heap.size ≤ b ∧ px.length ≤ cap ∧
    ∃ C, w'.heap[b]? = some (.cells C 5 (0, 0)) ∧ C.size = cap ∧ ∀ i, i < px.length → C[i]? = some (.int .u8 ((px.getD i 0).toNat : Int))))

theorem run_append_zero (W : World) (ty sb so sc : Nat) :
    (Builtin.append_ #[44, 44] ty #[.slice none 0 0, .slice (some ⟨sb, so, none⟩) 0 sc]).run Tryz.prog W = .ok (.slice none 0 0) W := by
  obtain ⟨i0, hi, hz0, hz1, hz2⟩ := info_parts infoByte
  have hl : ∀ (x : Addr), (loadCells x 0).run Tryz.prog W = .ok #[] W := fun x => by simpa using run_loadCells_list (P := Tryz.prog) W x [] (by simp)
  simp [Builtin.append_, run_underlying Tryz.underlying44, Builtin.lenOf, Builtin.firstCells, sizeOf, typeInfo, hi, hl]

set_option maxRecDepth 100000 in
theorem step_append_nil {ops : Array Oper} {o : Oper} {a : Act} {W : World} {K : Act → World → Prop} {Q : Exit → Act → World → Prop} {E : Prop} (hg : o.guard = none) (s x : Operand)
    (hop : o.op = Op.call { callee := Callee.builtin Builtin.append, args := #[s, x], argTypes := #[44, 44] })
    (hs : a.eval s = .slice none 0 0) (xb xo m xc : Nat) (hx : a.eval x = .slice (some ⟨xb, xo, none⟩) m xc) (news : List UInt8) (hm : news.length = m) (hnw : KS W xb xo news) (hsz : m ≤ 100000)
    (hK : ∀ v w', ApN W news v w' → K (a.put o.dst v) w') :
    if Region.wanted o (yielded ops a.tmps) = true then Oper.wp Tryz.prog o a W K Q else E := by
  subst hm
  by_cases h0 : news = []
  · subst h0
    have hr := run_append_zero W o.type xb xo xc
    have hw : Region.wanted o (yielded ops a.tmps) = true := by simp [Region.wanted, hg]
    rw [if_pos hw]
    unfold Oper.wp
    simp only [List.length_nil] at hx
    simp [execOp, hop, resolve, invoke, builtin, hs, hx, hr, Result.andThen]
    exact hK _ _ ⟨Tch.refl _ _, .inl ⟨rfl, rfl⟩⟩
  · have hpos := List.length_pos_iff.2 h0
    obtain ⟨i0, hi, hz0, hz1, hz2⟩ := info_parts infoByte
    refine step_append_grows hg s x 44 hop 5 i0 (.int .u8 0) 1 1 Tryz.underlying44 hi hz0 hz1 hz2 rfl (by decide) none 0 0 [] hs (fun _ => ⟨rfl, rfl⟩) rfl (fun b hb => by cases hb) ⟨xb, xo, none⟩ news.length xc (bytesV news) hx (by rw [bytesV_len]; omega) ?_ (bytesV_one _) (by omega) (by unfold maxLen; omega) (by omega) ?_
    · intro j u hj
      obtain ⟨hlt, rfl⟩ := bytesV_get _ _ _ hj
      rw [Addr.add_lit]
      exact hnw j hlt
    · intro v' w' hown hgrow
      rcases hown.2 with ⟨_, h⟩ | ⟨g, cap', cur, rfl, hg2, hh, hnc, _, hcs, htk⟩
      · omega
      · have T1 : Tch W w' (fun _ => False) := (Tch.refl W _).grown hgrow (fun b hb => by cases hb)
        rw [Nat.zero_add] at hnc htk ⊢
        refine hK _ w' ⟨T1, .inr ⟨h0, g, cap', rfl, hg2, hnc, cur, hh, by omega, fun i hi => ?_⟩⟩
        rw [Nat.mul_one, List.nil_append] at htk
        have h2 : (cur.toList.take news.length)[i]? = some (.int .u8 ((news.getD i 0).toNat : Int)) := by rw [htk]; exact bytesV_at news i hi
        rw [List.getElem?_take, if_pos hi] at h2
        simpa using h2

/-- Nothing appended to nothing. -/
theorem step_append_nil0 {ops : Array Oper} {o : Oper} {a : Act} {W : World} {K : Act → World → Prop} {Q : Exit → Act → World → Prop} {E : Prop} (hg : o.guard = none) (s x : Operand)
    (hop : o.op = Op.call { callee := Callee.builtin Builtin.append, args := #[s, x], argTypes := #[44, 44] })
    (hs : a.eval s = .slice none 0 0) (xb xo xc : Nat) (hx : a.eval x = .slice (some ⟨xb, xo, none⟩) 0 xc) (hK : K (a.put o.dst (.slice none 0 0)) W) :
    if Region.wanted o (yielded ops a.tmps) = true then Oper.wp Tryz.prog o a W K Q else E := by
  have hr := run_append_zero W o.type xb xo xc
  have hw : Region.wanted o (yielded ops a.tmps) = true := by simp [Region.wanted, hg]
  rw [if_pos hw]
  unfold Oper.wp
  simp [execOp, hop, resolve, invoke, builtin, hs, hx, hr, Result.andThen]
  exact hK

/-- What is known of the new row. -/
def ApS (W : World) (px : List UInt8) (b cap : Nat) (w' : World) : Prop :=
  Tch W w' (fun _ => False) ∧ W.heap.size ≤ b ∧ px.length ≤ cap ∧ ∃ C, w'.heap[b]? = some (.cells C 5 (0, 0)) ∧ C.size = cap ∧ ∀ i, i < px.length → C[i]? = some (.int .u8 ((px.getD i 0).toNat : Int))

theorem step_append_nil1 {ops : Array Oper} {o : Oper} {a : Act} {W : World} {K : Act → World → Prop} {Q : Exit → Act → World → Prop} {E : Prop} (hg : o.guard = none) (s x : Operand)
    (hop : o.op = Op.call { callee := Callee.builtin Builtin.append, args := #[s, x], argTypes := #[44, 44] })
    (hs : a.eval s = .slice none 0 0) (xb xo m xc : Nat) (hx : a.eval x = .slice (some ⟨xb, xo, none⟩) m xc) (news : List UInt8) (hm : news.length = m) (h0 : news ≠ []) (hnw : KS W xb xo news) (hsz : m ≤ 100000)
    (hK : ∀ b cap w', ApS W news b cap w' → K (a.put o.dst (.slice (some ⟨b, 0, none⟩) m cap)) w') :
    if Region.wanted o (yielded ops a.tmps) = true then Oper.wp Tryz.prog o a W K Q else E :=
  step_append_nil hg s x hop hs xb xo m xc hx news hm hnw hsz (fun v w' hA => by
    obtain ⟨h1, ⟨h2, _⟩ | ⟨_, b, cap, rfl, h3, h4, h5⟩⟩ := hA
    · exact absurd h2 h0
    · rw [hm]; exact hK b cap w' ⟨h1, h3, h4, h5⟩)

section
variable {t : Nat} {mp : Int} {rp : List UInt8} {M : List UInt8 → Option Int} {O : Nat → Prop} {N : Nat → Prop} {nd : Nat → Nd} {wd : Nat → List UInt8} {S : Nat → List UInt8} {sh : Nat → Nat} {w : World} {p : Nat}

theorem CLraw.later' {w w' : World} {cl : CL} (h : CLraw w cl) (hT : Tch w w' (fun _ => False)) : CLraw w' cl := h.later (fun k hk => hT.keep k hk (fun h => h))

/-- The node's copy has been made, its children's before it. -/
theorem clone_post (I : Inv t N nd wd S sh) (hp : N p) {Wm Wc W' : World} {cn : Nat → Nat} {cd : Nat → Nd} {cl' : CL} {lo : Nat} {v : Value} (hT : Tch w Wc (fun _ => False)) (hTm : Tch Wm Wc (fun _ => False))
    (HS : ClS Wm lo (fun x => ∃ d, d ∈ (nd p).cl.kids ∧ N x ∧ wd d <+: wd x) nd cn cd) (hlo : w.heap.size ≤ lo) (ha0 : w.heap.size ≤ cl'.a) (ha1 : cl'.a < lo) (hl : Wm.heap.size ≤ cl'.l) (hwm : w.heap.size ≤ Wm.heap.size) (hraw : CLraw Wc cl') (hC : ClC cn (nd p).cl cl')
    (hv : ((nd p).px = [] ∧ v = .slice none 0 0) ∨ ((nd p).px ≠ [] ∧ ∃ b cap, v = .slice (some ⟨b, 0, none⟩) (nd p).px.length cap ∧ w.heap.size ≤ b ∧ (b < lo ∨ Wm.heap.size ≤ b) ∧ (nd p).px.length ≤ cap ∧
      ∃ C, Wc.heap[b]? = some (.cells C 5 (0, 0)) ∧ C.size = cap ∧ ∀ i, i < (nd p).px.length → C[i]? = some (.int .u8 (((nd p).px.getD i 0).toNat : Int))))
    (h' : W'.heap = (Wc.alloc (.cells #[v, itv (nd p).it, .int .i64 (nd p).mp, .int .i64 (nd p).mc, cl'.val] 58)).heap) (hm : W'.os = Wc.os ∧ W'.tape = Wc.tape ∧ W'.output = Wc.output) :
    CloneP N wd nd p w (.returned (.pointer (some ⟨Wc.heap.size, 0, none⟩))) W' := by
  have hT2 : Tch Wc W' (fun _ => False) := ⟨hm.1, hm.2.1, hm.2.2, by rw [h']; simp, fun k hk _ => by rw [h']; exact Below.heap_alloc _ _ _ hk⟩
  have hnew : W'.heap[Wc.heap.size]? = some (.cells #[v, itv (nd p).it, .int .i64 (nd p).mp, .int .i64 (nd p).mc, cl'.val] 58 (0, 0)) := by rw [h']; exact heap_new Wc _
  have hms := hTm.size
  have hkp : ∀ c, c ∈ (nd p).cl.kids → c ≠ p := fun c hc e => by have := I.kid_longer hp hc; rw [e] at this; omega
  obtain ⟨d', hd1, hd2, hd3, hd4, hd5, hd6, hd7, hd8, hd9, hd10⟩ : ∃ d' : Nd, HN W' Wc.heap.size d' ∧ d'.px = (nd p).px ∧ d'.it = (nd p).it ∧ d'.mp = (nd p).mp ∧ d'.so = 0 ∧ (d'.np = true → (nd p).px = [] ∧ d'.sb = Wc.heap.size) ∧ d'.cl = cl' ∧ w.heap.size ≤ d'.sb ∧ (d'.np = false → d'.sb < lo ∨ Wm.heap.size ≤ d'.sb) ∧ True := by
    rcases hv with ⟨h1, rfl⟩ | ⟨h1, b, cap, rfl, h2, h3, h4, C, h5, h6, h7⟩
    · refine ⟨{ np := true, sb := Wc.heap.size, so := 0, sc := 0, px := [], it := (nd p).it, mp := (nd p).mp, mc := (nd p).mc, cl := cl' }, ⟨hnew, hraw.later' hT2, Nat.le_refl _, fun h => by cases h⟩, h1.symm, rfl, rfl, rfl, fun _ => ⟨h1, rfl⟩, rfl, hT.size, fun h => (by cases h), trivial⟩
    · refine ⟨{ np := false, sb := b, so := 0, sc := cap, px := (nd p).px, it := (nd p).it, mp := (nd p).mp, mc := (nd p).mc, cl := cl' }, ⟨hnew, hraw.later' hT2, h4, fun _ => ?_⟩, rfl, rfl, rfl, rfl, fun h => (by cases h), rfl, h2, fun _ => h3, trivial⟩
      have h8 := (hT2.keep b (lt_of_heap h5) (fun h => h)).trans h5
      exact ⟨C, (0, 0), h8, by show 0 + cap ≤ _; omega, fun i _ => free_of_block h8 i, fun i hi => by show C[0 + i]? = _; rw [Nat.zero_add]; exact h7 i hi⟩
  have hP : ∀ x, (∃ d, d ∈ (nd p).cl.kids ∧ N x ∧ wd d <+: wd x) → N x ∧ (wd p).length < (wd x).length := fun x ⟨d, hd, hx, h⟩ => by
    have h1 := I.kid_longer hp hd
    have h2 := h.length_le
    exact ⟨hx, by omega⟩
  have k1 : Cl1 W' w.heap.size nd (upd cn p Wc.heap.size) (upd cd p d') p := by
    refine ⟨by rw [upd_self, upd_self]; exact hd1, by rw [upd_self]; exact hd2, by rw [upd_self]; exact hd3, by rw [upd_self]; exact hd4, by rw [upd_self]; exact hd5, by rw [upd_self, upd_self]; exact hd6, ?_, ?_⟩
    · rw [upd_self, hd7]; exact hC.congr (fun c hc => upd_ne _ _ (hkp c hc))
    · rw [upd_self, upd_self, hd7]
      exact ⟨hT.size, by omega, ha0, hd8⟩
  have J := HS.top (hTm.trans hT2 (fun _ _ h => h)) (p := p) (p' := Wc.heap.size) (d' := d') (lo0 := w.heap.size) (fun h => by have := (hP p h).2; omega) (fun x hx c hc e => by
      have h1 := hP x hx
      have h2 := I.kid_longer h1.1 hc
      rw [e] at h2; omega) hlo k1 (.inr hms) (.inr (by rw [hd7]; exact hl)) (.inl (by rw [hd7]; exact ha1)) hd9
  refine ⟨upd cn p Wc.heap.size, upd cd p d', by rw [upd_self], hT.trans hT2 (fun _ _ h => h), J.of (fun x hx => ?_)⟩
  rcases I.desc hp hx.1 hx.2 with h | ⟨c, hc, h⟩
  · exact .inl h
  · exact .inr ⟨c, hc, hx.1, h⟩

set_option maxRecDepth 100000 in
set_option maxHeartbeats 6400000 in
theorem clone_node (A0 : TA w t mp rp M O N nd wd S sh) (hp : N p) (IHL : ∀ W, Tch w W (fun _ => False) → Calls Tryz.prog ((nd p).cl.fn 87 119) #[.pointer (some ⟨(nd p).cl.l, 0, none⟩)] W (CloneL N wd nd p W)) :
    Calls Tryz.prog 30 #[.pointer (some ⟨p, 0, none⟩)] w (CloneP N wd nd p w) := by
  have hN := A0.T.H p hp
  have hnp := A0.T.np hp
  have hl10 := A0.T.pxl hp
  have c0 := hN.sl hnp
  have c1 := hN.c1
  have c2 := hN.c2
  have c3 := hN.c3
  have c4 := hN.c4
  unfold CL.val at c4
  have hpl := lt_of_heap hN.obj
  have hks : ∀ W, Tch w W (fun _ => False) → KS W (nd p).sb (nd p).so (nd p).px := fun W hT => (hN.ks hnp).keep hT (fun h => h)
  have hcell : ∀ (W : World) (i : Nat), Tch w W (fun _ => False) → W.cell? ⟨p, i, none⟩ = w.cell? ⟨p, i, none⟩ := fun W i hT => World.cell?_of_block (hT.keep p hpl (fun h => h))
  have HKS := Lib.hid hks
  have HIHL := Lib.hid IHL
  have HI := Lib.hid (⟨A0.T.I, hp⟩ : _ ∧ _)
  have m1 := m_clone (nd p).cl
  have m2 := f_clone (nd p).cl
  clear A0 hp hN hnp hks IHL
  by_cases hpx : (nd p).px = []
  · have hl0 : (nd p).px.length = 0 := by rw [hpx]; rfl
    rw [hl0] at c0
    have HPX := Lib.hid hpx
    clear hpx hl0
    cases hit : (nd p).it with
    | none =>
      rw [hit] at c1
      simp only [itv] at c1
      have hS : ∀ W, Tch w W (fun _ => False) → W.cell? ⟨p, 0, none⟩ = some (.slice (some ⟨(nd p).sb, (nd p).so, none⟩) 0 (nd p).sc) ∧ W.cell? ⟨p, 1, none⟩ = some (.nilIface) ∧ W.cell? ⟨p, 2, none⟩ = some (.int .i64 (nd p).mp) ∧ W.cell? ⟨p, 3, none⟩ = some (.int .i64 (nd p).mc) ∧ W.cell? ⟨p, 4, none⟩ = some (.iface (nd p).cl.ty (.pointer (some ⟨(nd p).cl.l, 0, none⟩))) := fun W hT => ⟨(hcell W 0 hT).trans c0, (hcell W 1 hT).trans c1, (hcell W 2 hT).trans c2, (hcell W 3 hT).trans c3, (hcell W 4 hT).trans c4⟩
      have HS := Lib.hid hS
      have HIT := Lib.hid hit
      clear hS hit hcell
      go_enter Tryz.func30, Tryz.ntmps30
      go_wp2_with fail
      go_region_held3 (fun w' => w'.cell? ⟨p, 0, none⟩ = some (.slice (some ⟨(nd p).sb, (nd p).so, none⟩) 0 (nd p).sc) ∧ w'.cell? ⟨p, 1, none⟩ = some (.nilIface) ∧ w'.cell? ⟨p, 2, none⟩ = some (.int .i64 (nd p).mp) ∧ w'.cell? ⟨p, 3, none⟩ = some (.int .i64 (nd p).mc) ∧ w'.cell? ⟨p, 4, none⟩ = some (.iface (nd p).cl.ty (.pointer (some ⟨(nd p).cl.l, 0, none⟩))))
        (first | (refine HS.out _ ?_; (first | exact Tch.refl _ _ | exact (Tch.refl _ _).drw | assumption | exact Tch.drw (by assumption) | exact Tch.alloc (by assumption) _)))
        (first | (refine step_append_nil0 rfl (.const (.slice none 0 0)) (.tmp 6) rfl rfl (nd p).sb (nd p).so (nd p).sc rfl ?_) | (refine (HIHL.out _ ?_).mono ?_; (first | exact Tch.refl _ _ | exact (Tch.refl _ _).drw | assumption | exact Tch.drw (by assumption) | exact Tch.alloc (by assumption) _); rintro e wC ⟨cn, cd, cl', Wm, lo, rfl, hT1, hT2, hrest⟩; have hTC : Tch w wC (fun _ => False) := Tch.trans (by first | exact Tch.refl _ _ | exact (Tch.refl _ _).drw | assumption | exact Tch.drw (by assumption) | exact Tch.alloc (by assumption) _) (hT1.trans hT2 (fun _ _ h => h)) (fun _ _ h => h)))
      go_wp2_with fail
      go_ret
      obtain ⟨r1, r2, r3, r4, r5, r6, r7⟩ := hrest
      have h1 : w.heap.size ≤ Wm.heap.size := hT1.size
      have h3 : w.heap.size ≤ cl'.a := r3
      exact clone_post HI.out.1 HI.out.2 hTC hT2 r1 (by omega) h3 r4 r5 h1 r6 r7 (.inl ⟨HPX.out, rfl⟩) (by rw [HIT.out]; rfl) ⟨rfl, rfl, rfl⟩
    | some x =>
      rw [hit] at c1
      simp only [itv] at c1
      have hS : ∀ W, Tch w W (fun _ => False) → W.cell? ⟨p, 0, none⟩ = some (.slice (some ⟨(nd p).sb, (nd p).so, none⟩) 0 (nd p).sc) ∧ W.cell? ⟨p, 1, none⟩ = some (.iface 3 (.int .i64 x)) ∧ W.cell? ⟨p, 2, none⟩ = some (.int .i64 (nd p).mp) ∧ W.cell? ⟨p, 3, none⟩ = some (.int .i64 (nd p).mc) ∧ W.cell? ⟨p, 4, none⟩ = some (.iface (nd p).cl.ty (.pointer (some ⟨(nd p).cl.l, 0, none⟩))) := fun W hT => ⟨(hcell W 0 hT).trans c0, (hcell W 1 hT).trans c1, (hcell W 2 hT).trans c2, (hcell W 3 hT).trans c3, (hcell W 4 hT).trans c4⟩
      have HS := Lib.hid hS
      have HIT := Lib.hid hit
      clear hS hit hcell
      go_enter Tryz.func30, Tryz.ntmps30
      go_wp2_with fail
      go_region_held3 (fun w' => w'.cell? ⟨p, 0, none⟩ = some (.slice (some ⟨(nd p).sb, (nd p).so, none⟩) 0 (nd p).sc) ∧ w'.cell? ⟨p, 1, none⟩ = some (.iface 3 (.int .i64 x)) ∧ w'.cell? ⟨p, 2, none⟩ = some (.int .i64 (nd p).mp) ∧ w'.cell? ⟨p, 3, none⟩ = some (.int .i64 (nd p).mc) ∧ w'.cell? ⟨p, 4, none⟩ = some (.iface (nd p).cl.ty (.pointer (some ⟨(nd p).cl.l, 0, none⟩))))
        (first | (refine HS.out _ ?_; (first | exact Tch.refl _ _ | exact (Tch.refl _ _).drw | assumption | exact Tch.drw (by assumption) | exact Tch.alloc (by assumption) _)))
        (first | (refine step_append_nil0 rfl (.const (.slice none 0 0)) (.tmp 6) rfl rfl (nd p).sb (nd p).so (nd p).sc rfl ?_) | (refine (HIHL.out _ ?_).mono ?_; (first | exact Tch.refl _ _ | exact (Tch.refl _ _).drw | assumption | exact Tch.drw (by assumption) | exact Tch.alloc (by assumption) _); rintro e wC ⟨cn, cd, cl', Wm, lo, rfl, hT1, hT2, hrest⟩; have hTC : Tch w wC (fun _ => False) := Tch.trans (by first | exact Tch.refl _ _ | exact (Tch.refl _ _).drw | assumption | exact Tch.drw (by assumption) | exact Tch.alloc (by assumption) _) (hT1.trans hT2 (fun _ _ h => h)) (fun _ _ h => h)))
      go_wp2_with fail
      go_ret
      obtain ⟨r1, r2, r3, r4, r5, r6, r7⟩ := hrest
      have h1 : w.heap.size ≤ Wm.heap.size := hT1.size
      have h3 : w.heap.size ≤ cl'.a := r3
      exact clone_post HI.out.1 HI.out.2 hTC hT2 r1 (by omega) h3 r4 r5 h1 r6 r7 (.inl ⟨HPX.out, rfl⟩) (by rw [HIT.out]; rfl) ⟨rfl, rfl, rfl⟩
  · skip
    have HPX := Lib.hid hpx
    clear hpx
    cases hit : (nd p).it with
    | none =>
      rw [hit] at c1
      simp only [itv] at c1
      have hS : ∀ W, Tch w W (fun _ => False) → W.cell? ⟨p, 0, none⟩ = some (.slice (some ⟨(nd p).sb, (nd p).so, none⟩) (nd p).px.length (nd p).sc) ∧ W.cell? ⟨p, 1, none⟩ = some (.nilIface) ∧ W.cell? ⟨p, 2, none⟩ = some (.int .i64 (nd p).mp) ∧ W.cell? ⟨p, 3, none⟩ = some (.int .i64 (nd p).mc) ∧ W.cell? ⟨p, 4, none⟩ = some (.iface (nd p).cl.ty (.pointer (some ⟨(nd p).cl.l, 0, none⟩))) := fun W hT => ⟨(hcell W 0 hT).trans c0, (hcell W 1 hT).trans c1, (hcell W 2 hT).trans c2, (hcell W 3 hT).trans c3, (hcell W 4 hT).trans c4⟩
      have HS := Lib.hid hS
      have HIT := Lib.hid hit
      clear hS hit hcell
      go_enter Tryz.func30, Tryz.ntmps30
      go_wp2_with fail
      go_region_held3 (fun w' => w'.cell? ⟨p, 0, none⟩ = some (.slice (some ⟨(nd p).sb, (nd p).so, none⟩) (nd p).px.length (nd p).sc) ∧ w'.cell? ⟨p, 1, none⟩ = some (.nilIface) ∧ w'.cell? ⟨p, 2, none⟩ = some (.int .i64 (nd p).mp) ∧ w'.cell? ⟨p, 3, none⟩ = some (.int .i64 (nd p).mc) ∧ w'.cell? ⟨p, 4, none⟩ = some (.iface (nd p).cl.ty (.pointer (some ⟨(nd p).cl.l, 0, none⟩))))
        (first | (refine HS.out _ ?_; (first | exact Tch.refl _ _ | exact (Tch.refl _ _).drw | assumption | exact Tch.drw (by assumption) | exact Tch.alloc (by assumption) _)))
        (first | (refine step_append_nil1 rfl (.const (.slice none 0 0)) (.tmp 6) rfl rfl (nd p).sb (nd p).so (nd p).px.length (nd p).sc rfl (nd p).px rfl HPX.out (HKS.out _ ?_) (by omega) ?_; (first | exact Tch.refl _ _ | exact (Tch.refl _ _).drw | assumption | exact Tch.drw (by assumption) | exact Tch.alloc (by assumption) _); intro b cap wA hA; have hTA : Tch w wA (fun _ => False) := Tch.trans (by first | exact Tch.refl _ _ | exact (Tch.refl _ _).drw | assumption | exact Tch.drw (by assumption) | exact Tch.alloc (by assumption) _) hA.1 (fun _ _ h => h)) | (refine (HIHL.out _ ?_).mono ?_; (first | exact Tch.refl _ _ | exact (Tch.refl _ _).drw | assumption | exact Tch.drw (by assumption)); rintro e wC ⟨cn, cd, cl', Wm, lo, rfl, hT1, hT2, hrest⟩; have hTC : Tch w wC (fun _ => False) := Tch.trans (by first | exact Tch.refl _ _ | exact (Tch.refl _ _).drw | assumption | exact Tch.drw (by assumption)) (hT1.trans hT2 (fun _ _ h => h)) (fun _ _ h => h)))
      go_wp2_with fail
      go_ret
      obtain ⟨r1, r2, r3, r4, r5, r6, r7⟩ := hrest
      obtain ⟨a1, a2, a3, C, a4, a5, a6⟩ := hA
      have h0 : w.heap.size ≤ wA.heap.size := a1.size
      have h1 : wA.heap.size ≤ Wm.heap.size := hT1.size
      have h3 : wA.heap.size ≤ cl'.a := r3
      have h4 : w.heap.size ≤ b := a2
      have h5 := lt_of_heap a4
      have h6 : wC.heap[b]? = some (.cells C 5 (0, 0)) := ((hT1.trans hT2 (fun _ _ h => h)).keep b h5 (fun h => h)).trans a4
      exact clone_post HI.out.1 HI.out.2 hTC hT2 r1 (by omega) (by omega) r4 r5 (by omega) r6 r7 (.inr ⟨HPX.out, b, cap, rfl, h4, .inl (by omega), a3, C, h6, a5, a6⟩) (by rw [HIT.out]; rfl) ⟨rfl, rfl, rfl⟩
    | some x =>
      rw [hit] at c1
      simp only [itv] at c1
      have hS : ∀ W, Tch w W (fun _ => False) → W.cell? ⟨p, 0, none⟩ = some (.slice (some ⟨(nd p).sb, (nd p).so, none⟩) (nd p).px.length (nd p).sc) ∧ W.cell? ⟨p, 1, none⟩ = some (.iface 3 (.int .i64 x)) ∧ W.cell? ⟨p, 2, none⟩ = some (.int .i64 (nd p).mp) ∧ W.cell? ⟨p, 3, none⟩ = some (.int .i64 (nd p).mc) ∧ W.cell? ⟨p, 4, none⟩ = some (.iface (nd p).cl.ty (.pointer (some ⟨(nd p).cl.l, 0, none⟩))) := fun W hT => ⟨(hcell W 0 hT).trans c0, (hcell W 1 hT).trans c1, (hcell W 2 hT).trans c2, (hcell W 3 hT).trans c3, (hcell W 4 hT).trans c4⟩
      have HS := Lib.hid hS
      have HIT := Lib.hid hit
      clear hS hit hcell
      go_enter Tryz.func30, Tryz.ntmps30
      go_wp2_with fail
      go_region_held3 (fun w' => w'.cell? ⟨p, 0, none⟩ = some (.slice (some ⟨(nd p).sb, (nd p).so, none⟩) (nd p).px.length (nd p).sc) ∧ w'.cell? ⟨p, 1, none⟩ = some (.iface 3 (.int .i64 x)) ∧ w'.cell? ⟨p, 2, none⟩ = some (.int .i64 (nd p).mp) ∧ w'.cell? ⟨p, 3, none⟩ = some (.int .i64 (nd p).mc) ∧ w'.cell? ⟨p, 4, none⟩ = some (.iface (nd p).cl.ty (.pointer (some ⟨(nd p).cl.l, 0, none⟩))))
        (first | (refine HS.out _ ?_; (first | exact Tch.refl _ _ | exact (Tch.refl _ _).drw | assumption | exact Tch.drw (by assumption) | exact Tch.alloc (by assumption) _)))
        (first | (refine step_append_nil1 rfl (.const (.slice none 0 0)) (.tmp 6) rfl rfl (nd p).sb (nd p).so (nd p).px.length (nd p).sc rfl (nd p).px rfl HPX.out (HKS.out _ ?_) (by omega) ?_; (first | exact Tch.refl _ _ | exact (Tch.refl _ _).drw | assumption | exact Tch.drw (by assumption) | exact Tch.alloc (by assumption) _); intro b cap wA hA; have hTA : Tch w wA (fun _ => False) := Tch.trans (by first | exact Tch.refl _ _ | exact (Tch.refl _ _).drw | assumption | exact Tch.drw (by assumption) | exact Tch.alloc (by assumption) _) hA.1 (fun _ _ h => h)) | (refine (HIHL.out _ ?_).mono ?_; (first | exact Tch.refl _ _ | exact (Tch.refl _ _).drw | assumption | exact Tch.drw (by assumption)); rintro e wC ⟨cn, cd, cl', Wm, lo, rfl, hT1, hT2, hrest⟩; have hTC : Tch w wC (fun _ => False) := Tch.trans (by first | exact Tch.refl _ _ | exact (Tch.refl _ _).drw | assumption | exact Tch.drw (by assumption)) (hT1.trans hT2 (fun _ _ h => h)) (fun _ _ h => h)))
      go_wp2_with fail
      go_ret
      obtain ⟨r1, r2, r3, r4, r5, r6, r7⟩ := hrest
      obtain ⟨a1, a2, a3, C, a4, a5, a6⟩ := hA
      have h0 : w.heap.size ≤ wA.heap.size := a1.size
      have h1 : wA.heap.size ≤ Wm.heap.size := hT1.size
      have h3 : wA.heap.size ≤ cl'.a := r3
      have h4 : w.heap.size ≤ b := a2
      have h5 := lt_of_heap a4
      have h6 : wC.heap[b]? = some (.cells C 5 (0, 0)) := ((hT1.trans hT2 (fun _ _ h => h)).keep b h5 (fun h => h)).trans a4
      exact clone_post HI.out.1 HI.out.2 hTC hT2 r1 (by omega) (by omega) r4 r5 (by omega) r6 r7 (.inr ⟨HPX.out, b, cap, rfl, h4, .inl (by omega), a3, C, h6, a5, a6⟩) (by rw [HIT.out]; rfl) ⟨rfl, rfl, rfl⟩

/-- Clone of whatever node. -/
theorem clone_all (A0 : TA w t mp rp M O N nd wd S sh) : ∀ (n p : Nat), 10 - (wd p).length < n → N p → ∀ W, Tch w W (fun _ => False) → Calls Tryz.prog 30 #[.pointer (some ⟨p, 0, none⟩)] W (CloneP N wd nd p W) := by
  intro n
  induction n with
  | zero => intro p h; omega
  | succ n ih =>
    intro p hn hp W hT
    have A := A0.later (w1 := W) (fun k hk => hT.keep k (A0.lt k hk) (fun h => h)) hT.size
    refine clone_node A hp (fun W2 hT2 => ?_)
    have hTW : Tch w W2 (fun _ => False) := hT.trans hT2 (fun _ _ h => h)
    have A2 := A0.later (w1 := W2) (fun k hk => hTW.keep k (A0.lt k hk) (fun h => h)) hTW.size
    have IH : ∀ c, c ∈ (nd p).cl.kids → CloneIH N wd nd W2 c := fun c hc W3 hT3 => by
      have h1 := A.T.I.kid_longer hp hc
      have h2 := A.T.I.len c (A.T.I.kid p hp c hc).1
      exact ih c (by omega) (A.T.I.kid p hp c hc).1 W3 (hTW.trans hT3 (fun _ _ h => h))
    cases hcl : (nd p).cl with
    | sp l a cap ks => exact sp_clone A2 hp hcl (fun c hc => IH c (by rw [hcl]; exact hc))
    | dn l a mn hi arr => exact dn_clone A2 hp hcl (fun c hc => IH c (by rw [hcl]; exact hc))

/-- Clone of a trie: another trie of the same words, in new blocks; all that is old is as it was. -/
theorem clone_trie (A0 : TA w t mp rp M O N nd wd S sh) :
    Calls Tryz.prog 30 #[.pointer (some ⟨t, 0, none⟩)] w (fun e w' => ∃ u N' nd' wd' S' sh', e = .returned (ptr u) ∧ TAw w' u mp rp M (fun k => w.heap.size ≤ k ∧ k < w'.heap.size) N' nd' wd' S' sh' ∧ Tch w w' (fun _ => False)) := by
  refine (clone_all A0 11 t (by omega) A0.T.I.root_mem w (Tch.refl _ _)).mono ?_
  rintro e w' ⟨cn, cd, rfl, hT, hS⟩
  obtain ⟨N', nd', wd', S', sh', h⟩ := clone_taw A0 (hS.of (fun x hx => ⟨hx, A0.T.I.root_le hx⟩))
  exact ⟨cn t, N', nd', wd', S', sh', rfl, h, hT⟩
end

end Go.Proofs.YtmdbnjepajifpaaGreat
