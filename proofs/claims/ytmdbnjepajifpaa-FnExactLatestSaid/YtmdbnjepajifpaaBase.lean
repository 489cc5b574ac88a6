/- Plain words on lists of bytes and on slices of bytes in memory. No condition. -/
import Derived.Test.YtmdbnjepajifpaaProg
import Derived.WalkKit
import Derived.Deep.QuietTactic
import Derived.BigQuiet
import Derived.Lib.Hide
import Derived.Deep.CutRange
import Derived.Deep.LoopGhost
import Derived.StillTailTactics
import Derived.Deep.RegionLaw
import Derived.Deep.RegionWith
import Derived.WalkSpells
namespace Go.Proofs.Ytmdbnjepajifpaa
open Go.RowKit

/-- The length of the longest common beginning. -/
def lcp : List UInt8 → List UInt8 → Nat
  | a :: r, b :: s => if a = b then lcp r s + 1 else 0
  | _, _ => 0

theorem lcp_le_left : ∀ (a b : List UInt8), lcp a b ≤ a.length
  | [], b => by cases b <;> simp [lcp]
  | x :: a, [] => by simp [lcp]
  | x :: a, y :: b => by
    have := lcp_le_left a b
    unfold lcp; split <;> simp <;> omega

theorem lcp_le_right : ∀ (a b : List UInt8), lcp a b ≤ b.length
  | [], b => by cases b <;> simp [lcp]
  | x :: a, [] => by simp [lcp]
  | x :: a, y :: b => by
    have := lcp_le_right a b
    unfold lcp; split <;> simp <;> omega

theorem lcp_take : ∀ (a b : List UInt8), a.take (lcp a b) = b.take (lcp a b)
  | [], b => by cases b <;> simp [lcp]
  | x :: a, [] => by simp [lcp]
  | x :: a, y :: b => by
    have := lcp_take a b
    unfold lcp; split
    · rename_i h; subst h; simpa using this
    · simp

/-- It stops where the two part. -/
theorem lcp_stop : ∀ (a b : List UInt8), lcp a b < a.length → lcp a b < b.length → a[lcp a b]? ≠ b[lcp a b]?
  | [], b => by simp
  | x :: a, [] => by simp
  | x :: a, y :: b => by
    have ih := lcp_stop a b
    unfold lcp; split
    · rename_i h; subst h
      intro h1 h2
      simp only [List.length_cons] at h1 h2
      simpa using ih (by omega) (by omega)
    · rename_i h; intro _ _; simpa using h

/-- A number that is a common beginning and beyond which the two part is the length. -/
theorem lcp_eq : ∀ (a b : List UInt8) (n : Nat), n ≤ a.length → n ≤ b.length → a.take n = b.take n → (n < a.length → n < b.length → a.getD n 0 ≠ b.getD n 0) → lcp a b = n
  | [], b, n, h1, _, _, _ => by cases b <;> simp [lcp] at * <;> omega
  | x :: a, [], n, _, h2, _, _ => by simp [lcp] at *; omega
  | x :: a, y :: b, 0, _, _, _, h4 => by
    have := h4 (by simp) (by simp)
    simp at this
    simp [lcp, this]
  | x :: a, y :: b, n + 1, h1, h2, h3, h4 => by
    simp at h1 h2 h3
    have := lcp_eq a b n h1 h2 h3.2 (by simpa using h4)
    simp [lcp, h3.1, this]

/-- A call that returns v and only reads (it may draw). -/
def RetD (v : Value) (w : World) (e : Ending) (w' : World) : Prop := e = .returned v ∧ ∃ n, w' = w.drewN n

theorem retD {v v' : Value} {w w' : World} (n : Nat) (hv : v' = v) (hw : w' = w.drewN n) : RetD v w (.returned v') w' := ⟨by rw [hv], n, hw⟩
theorem retD0 {v v' : Value} {w : World} (hv : v' = v) : RetD v w (.returned v') w := ⟨by rw [hv], 0, rfl⟩

theorem results_tmp4 {fn : Func} {t u v x : Tmp} (h : fn.results = #[.tmp t, .tmp u, .tmp v, .tmp x]) (tmps : Array Value) (P : Program) (w : World) :
    (results fn tmps).run P w = .ok (.tuple #[tmps.getD t undef, tmps.getD u undef, tmps.getD v undef, tmps.getD x undef]) w := by
  simp [results, h]
theorem results_tmp3 {fn : Func} {t u v : Tmp} (h : fn.results = #[.tmp t, .tmp u, .tmp v]) (tmps : Array Value) (P : Program) (w : World) :
    (results fn tmps).run P w = .ok (.tuple #[tmps.getD t undef, tmps.getD u undef, tmps.getD v undef]) w := by
  simp [results, h]

/-- A region that draws its order, its operations but for the last ones reading only: the world behind the draw under a name. -/
theorem wp_region_tail {P : Program} {id : Nat} {Q : Exit → Act → World → Prop} {a : Act} {w W : World} {l : List Oper} (n : Nat) (hm : P.follows .mixedOrders = true) (hB : Region.lexTailB .any l.toArray n = true) (hW : w.drew = W)
    (h : wpStill P l.toArray W (fun a' => wpList P l.toArray Q (l.drop n) a' W) (l.take n) a) : (Code.region id l.toArray true).wp P Q a w := by
  subst hW
  exact wp_region_still_tail n hm hB h

/-- The slice value v, not nil, of bytes l as memory has them now. -/
def BS (w : World) (v : Value) (l : List UInt8) : Prop :=
  ∃ b o c, v = .slice (some ⟨b, o, none⟩) l.length c ∧ l.length ≤ c ∧ c ≤ 1000000000 ∧
    ∀ i, i < l.length → w.cell? ⟨b, o + i, none⟩ = some (.int .u8 ((l.getD i 0).toNat : Int))

end Go.Proofs.Ytmdbnjepajifpaa
