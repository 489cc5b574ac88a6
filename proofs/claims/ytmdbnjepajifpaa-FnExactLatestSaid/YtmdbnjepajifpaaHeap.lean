/- A node in memory; the facts on cells that it gives; the methods that an interface value of a list of children has. -/
import Derived.Test.YtmdbnjepajifpaaGhost
namespace Go.Proofs.Ytmdbnjepajifpaa
open Go.RowKit

/-- Memory holds the bytes k from place o of block b on. -/
def KS (w : World) (b o : Nat) (k : List UInt8) : Prop := ∀ i, i < k.length → w.cell? ⟨b, o + i, none⟩ = some (.int .u8 ((k.getD i 0).toNat : Int))

theorem KS.drop {w : World} {b o : Nat} {k : List UInt8} (h : KS w b o k) (c : Nat) : KS w b (o + c) (k.drop c) := by
  intro i hi
  simp only [List.length_drop] at hi
  have := h (c + i) (by omega)
  rw [show o + c + i = o + (c + i) by omega, this]
  simp [List.getD_eq_getElem?_getD]

theorem KS.take {w : World} {b o : Nat} {k : List UInt8} (h : KS w b o k) (c : Nat) : KS w b o (k.take c) := by
  intro i hi
  simp only [List.length_take] at hi
  rw [h i (by omega)]
  simp [List.getD_eq_getElem?_getD, show i < c by omega]

theorem KS.head {w : World} {b o : Nat} {k : List UInt8} (h : KS w b o k) {x : UInt8} (hx : k.head? = some x) : w.cell? ⟨b, o, none⟩ = some (.int .u8 (x.toNat : Int)) := by
  cases k with
  | nil => simp at hx
  | cons y l =>
    simp at hx; subst hx
    simpa using h 0 (by simp)

/-- A node in memory. -/
structure HN (w : World) (p : Nat) (d : Nd) : Prop where
  obj : w.heap[p]? = some d.obj
  raw : CLraw w d.cl
  le : d.px.length ≤ d.sc
  blk : d.np = false → ∃ (C : Array Value) (fr : Nat × Nat), w.heap[d.sb]? = some (.cells C 5 fr) ∧ d.so + d.sc ≤ C.size ∧ (∀ i, i < C.size → w.frozen? ⟨d.sb, i, none⟩ = false) ∧
    ∀ i, i < d.px.length → C[d.so + i]? = some (.int .u8 ((d.px.getD i 0).toNat : Int))

section
variable {w : World} {p : Nat} {d : Nd}

theorem HN.pv (h : HN w p d) : w.cell? ⟨p, 0, none⟩ = some d.pv := by rw [cell_of_block h.obj]; rfl
theorem HN.sl (h : HN w p d) (hn : d.np = false) : w.cell? ⟨p, 0, none⟩ = some (.slice (some ⟨d.sb, d.so, none⟩) d.px.length d.sc) := by rw [h.pv, Nd.pv, hn]; rfl
theorem HN.c1 (h : HN w p d) : w.cell? ⟨p, 1, none⟩ = some (itv d.it) := by rw [cell_of_block h.obj]; rfl
theorem HN.c2 (h : HN w p d) : w.cell? ⟨p, 2, none⟩ = some (.int .i64 d.mp) := by rw [cell_of_block h.obj]; rfl
theorem HN.c3 (h : HN w p d) : w.cell? ⟨p, 3, none⟩ = some (.int .i64 d.mc) := by rw [cell_of_block h.obj]; rfl
theorem HN.c4 (h : HN w p d) : w.cell? ⟨p, 4, none⟩ = some d.cl.val := by rw [cell_of_block h.obj]; rfl
theorem HN.fr (h : HN w p d) (i : Nat) : w.frozen? ⟨p, i, none⟩ = false := free_of_block h.obj i

theorem HN.ks (h : HN w p d) (hn : d.np = false) : KS w d.sb d.so d.px := by
  obtain ⟨C, fr, h1, _, _, h2⟩ := h.blk hn
  intro i hi
  rw [cell_of_block h1]
  exact h2 i hi

theorem HN.fbr (h : HN w p d) (hn : d.np = false) (hx : d.px ≠ []) : FB w p d.fb := by
  refine ⟨d.sb, d.so, _, _, h.sl hn, List.length_pos_iff.2 hx, (h.ks hn).head ?_⟩
  unfold Nd.fb
  cases hp : d.px with
  | nil => exact absurd hp hx
  | cons a l => rfl
end

section
variable {root : Nat} {N : Nat → Prop} {nd : Nat → Nd} {wd : Nat → List UInt8} {S : Nat → List UInt8} {sh : Nat → Nat} {w : World}
/-- A node's children's first bytes. -/
theorem Inv.kb (I : Inv root N nd wd S sh) (H : ∀ p, N p → HN w p (nd p)) {p : Nat} (hp : N p) : KB w (fun c => (nd c).fb) (nd p).cl where
  rd c hc := by
    obtain ⟨h1, h2, _, h4⟩ := I.kid p hp c hc
    exact (H c h1).fbr (I.np c h1 h2) h4
  ne c d hc hd h := I.ne p hp c d hc hd h
  nodup := I.nodup p hp
  placed := I.placed p hp
end

/-! ### draws turn nothing -/
theorem FB.dr {w : World} {p : Nat} {b : UInt8} (n : Nat) (h : FB w p b) : FB (w.drewN n) p b := h
theorem KB.dr {w : World} {fb : Nat → UInt8} {cl : CL} (n : Nat) (h : KB w fb cl) : KB (w.drewN n) fb cl := ⟨h.rd, h.ne, h.nodup, h.placed⟩
theorem CLraw.dr {w : World} {cl : CL} (n : Nat) (h : CLraw w cl) : CLraw (w.drewN n) cl := by cases cl <;> exact h
theorem HN.dr {w : World} {p : Nat} {d : Nd} (n : Nat) (h : HN w p d) : HN (w.drewN n) p d := ⟨h.obj, h.raw.dr n, h.le, h.blk⟩

/-! ### methods -/
def CL.fn (s d : Nat) : CL → Nat
  | .sp _ _ _ _ => s
  | .dn _ _ _ _ _ => d

theorem next_any (w : World) (fb : Nat → UInt8) (cl : CL) (b : UInt8) (hraw : CLraw w cl) (hk : KB w fb cl) :
    Calls Try.prog (cl.fn 116 148) #[ptr cl.l, .int .u8 (b.toNat : Int)] w (RetD (optr (cl.child fb b)) w) := by
  cases cl with
  | sp l a cap ks => exact sp_next w fb l a cap ks b hraw hk.rd
  | dn l a mn hi arr => exact dn_next w fb l a mn hi arr b hraw hk.placed

theorem len_any (w : World) (cl : CL) (hraw : CLraw w cl) :
    Calls Try.prog (cl.fn 115 147) #[ptr cl.l] w (RetD (.int .i64 cl.kids.length) w) := by
  cases cl with
  | sp l a cap ks => exact sp_len w l a cap ks hraw
  | dn l a mn hi arr => exact dn_len w l a mn hi arr hraw

/-- The head of a list with one child is that child, or nil. -/
theorem head_any (w : World) (cl : CL) (c : Nat) (hraw : CLraw w cl) (hc : cl.kids = [c]) :
    ∃ x, (x = none ∨ x = some c) ∧ Calls Try.prog (cl.fn 114 146) #[ptr cl.l] w (RetD (optr x) w) := by
  cases cl with
  | sp l a cap ks =>
    have : ks = [c] := hc
    subst this
    exact ⟨some c, .inr rfl, sp_head w l a cap c hraw⟩
  | dn l a mn hi arr =>
    obtain ⟨x, hx, h⟩ := dn_head w l a mn hi arr hraw
    refine ⟨x, ?_, h⟩
    rcases hx with rfl | ⟨d, rfl, hd⟩
    · exact .inl rfl
    · right
      have : d ∈ [c] := by rw [← hc]; exact hd
      simp at this
      rw [this]

theorem next_q (w : World) (fb : Nat → UInt8) (cl : CL) (b : UInt8) (hraw : CLraw w cl) (hk : KB w fb cl) (n : Nat) :
    Calls Try.prog (cl.fn 116 148) #[ptr cl.l, .int .u8 (b.toNat : Int)] (w.drewN n) (RetD (optr (cl.child fb b)) (w.drewN n)) :=
  next_any _ fb cl b (hraw.dr n) (hk.dr n)
theorem len_q (w : World) (cl : CL) (hraw : CLraw w cl) (n : Nat) :
    Calls Try.prog (cl.fn 115 147) #[ptr cl.l] (w.drewN n) (RetD (.int .i64 cl.kids.length) (w.drewN n)) :=
  len_any _ cl (hraw.dr n)

/-- longestCommonPrefixLength at a node. -/
theorem lcp_q (w : World) (p kb ko kc : Nat) (d : Nd) (K : List UInt8) (h : HN w p d) (hn : d.np = false) (hk : KS w kb ko K) (hkl : K.length ≤ 1000) (hl : d.px.length ≤ 1000) (n : Nat) :
    Calls Try.prog 70 #[ptr p, .slice (some ⟨kb, ko, none⟩) K.length kc] (w.drewN n) (RetD (.int .i64 (lcp d.px K : Nat)) (w.drewN n)) :=
  lcp_any (w.drewN n) p kb ko kc d.sb d.so d.sc K d.px (h.sl hn) hk (h.ks hn) (by omega) (by omega)

/-- A quiet contract inside a region that draws, behind draws. -/
theorem qshift {P : Program} {f : FuncId} {args : Array Value} {w : World} {v : Value} (h : ∀ n, Calls P f args (w.drewN n) (RetD v (w.drewN n))) (a n : Nat) :
    Calls P f args (w.drewN (a + n)) fun e w'' => e = .returned v ∧ ∃ m, w'' = w.drewN (a + m) :=
  (h (a + n)).mono fun e w'' ⟨he, m, hm⟩ => ⟨he, n + m, by rw [hm, World.drewN_drewN, Nat.add_assoc]⟩

/-- What the interface's methods are. -/
theorem m_next (cl : CL) (w : World) : (method 270 cl.ty (.pointer (some ⟨cl.l, 0, none⟩)) "loop.example/pub-patriciatries/pub/patricia.next").run Try.prog w = .ok (cl.fn 116 148, .pointer (some ⟨cl.l, 0, none⟩)) w := by
  cases cl <;> kernel_rfl
theorem m_length (cl : CL) (w : World) : (method 270 cl.ty (.pointer (some ⟨cl.l, 0, none⟩)) "loop.example/pub-patriciatries/pub/patricia.length").run Try.prog w = .ok (cl.fn 115 147, .pointer (some ⟨cl.l, 0, none⟩)) w := by
  cases cl <;> kernel_rfl
theorem m_head (cl : CL) (w : World) : (method 270 cl.ty (.pointer (some ⟨cl.l, 0, none⟩)) "loop.example/pub-patriciatries/pub/patricia.head").run Try.prog w = .ok (cl.fn 114 146, .pointer (some ⟨cl.l, 0, none⟩)) w := by
  cases cl <;> kernel_rfl
theorem m_add (cl : CL) (w : World) : (method 270 cl.ty (.pointer (some ⟨cl.l, 0, none⟩)) "loop.example/pub-patriciatries/pub/patricia.add").run Try.prog w = .ok (cl.fn 112 144, .pointer (some ⟨cl.l, 0, none⟩)) w := by
  cases cl <;> kernel_rfl
theorem m_remove (cl : CL) (w : World) : (method 270 cl.ty (.pointer (some ⟨cl.l, 0, none⟩)) "loop.example/pub-patriciatries/pub/patricia.remove").run Try.prog w = .ok (cl.fn 117 149, .pointer (some ⟨cl.l, 0, none⟩)) w := by
  cases cl <;> kernel_rfl
theorem m_replace (cl : CL) (w : World) : (method 270 cl.ty (.pointer (some ⟨cl.l, 0, none⟩)) "loop.example/pub-patriciatries/pub/patricia.replace").run Try.prog w = .ok (cl.fn 118 150, .pointer (some ⟨cl.l, 0, none⟩)) w := by
  cases cl <;> kernel_rfl
theorem m_walk (cl : CL) (w : World) : (method 270 cl.ty (.pointer (some ⟨cl.l, 0, none⟩)) "loop.example/pub-patriciatries/pub/patricia.walk").run Try.prog w = .ok (cl.fn 120 152, .pointer (some ⟨cl.l, 0, none⟩)) w := by
  cases cl <;> kernel_rfl
theorem f_next (cl : CL) (args : Array Value) (w : World) : (callFunc (cl.fn 116 148) args).run Try.prog w = .ok (.enter (cl.fn 116 148) args) w := by
  cases cl <;> kernel_rfl
theorem f_length (cl : CL) (args : Array Value) (w : World) : (callFunc (cl.fn 115 147) args).run Try.prog w = .ok (.enter (cl.fn 115 147) args) w := by
  cases cl <;> kernel_rfl
theorem f_head (cl : CL) (args : Array Value) (w : World) : (callFunc (cl.fn 114 146) args).run Try.prog w = .ok (.enter (cl.fn 114 146) args) w := by
  cases cl <;> kernel_rfl
theorem f_add (cl : CL) (args : Array Value) (w : World) : (callFunc (cl.fn 112 144) args).run Try.prog w = .ok (.enter (cl.fn 112 144) args) w := by
  cases cl <;> kernel_rfl
theorem f_remove (cl : CL) (args : Array Value) (w : World) : (callFunc (cl.fn 117 149) args).run Try.prog w = .ok (.enter (cl.fn 117 149) args) w := by
  cases cl <;> kernel_rfl
theorem f_replace (cl : CL) (args : Array Value) (w : World) : (callFunc (cl.fn 118 150) args).run Try.prog w = .ok (.enter (cl.fn 118 150) args) w := by
  cases cl <;> kernel_rfl
theorem f_walk (cl : CL) (args : Array Value) (w : World) : (callFunc (cl.fn 120 152) args).run Try.prog w = .ok (.enter (cl.fn 120 152) args) w := by
  cases cl <;> kernel_rfl

end Go.Proofs.Ytmdbnjepajifpaa
