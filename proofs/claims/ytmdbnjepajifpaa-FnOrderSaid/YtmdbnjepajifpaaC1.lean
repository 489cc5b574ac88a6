/- Tries in memory, part C1. Lemmas; no statement of their own. -/
import Derived.Test.YtmdbnjepajifpaaProg
import Derived.WalkKit
import Derived.Deep.QuietTactic
import Derived.BigQuiet
import Derived.Lib.Hide
import Derived.Deep.CutRange
import Derived.Deep.LoopGhost
import Derived.StillTailTactics
import Derived.Deep.RegionLaw
import Derived.Deep.RegionWith
import Derived.WalkSpells

/- Plain words on lists of bytes and on slices of bytes in memory. No condition. -/
set_option linter.unusedVariables false
set_option linter.unusedSimpArgs false
namespace Go.Proofs.Ytmdbnjepajifpaa
open Go.RowKit

/-- The length of the longest common beginning. -/
def lcp : List UInt8 → List UInt8 → Nat
  | a :: r, b :: s => if a = b then lcp r s + 1 else 0
  | _, _ => 0

theorem lcp_le_left : ∀ (a b : List UInt8), lcp a b ≤ a.length
  | [], b => by cases b <;> simp [lcp]
  | x :: a, [] => by simp [lcp]
  | x :: a, y :: b => by
    have := lcp_le_left a b
    unfold lcp; split <;> simp <;> omega

theorem lcp_le_right : ∀ (a b : List UInt8), lcp a b ≤ b.length
  | [], b => by cases b <;> simp [lcp]
  | x :: a, [] => by simp [lcp]
  | x :: a, y :: b => by
    have := lcp_le_right a b
    unfold lcp; split <;> simp <;> omega

theorem lcp_take : ∀ (a b : List UInt8), a.take (lcp a b) = b.take (lcp a b)
  | [], b => by cases b <;> simp [lcp]
  | x :: a, [] => by simp [lcp]
  | x :: a, y :: b => by
    have := lcp_take a b
    unfold lcp; split
    · rename_i h; subst h; simpa using this
    · simp

/-- It stops where the two part. -/
theorem lcp_stop : ∀ (a b : List UInt8), lcp a b < a.length → lcp a b < b.length → a[lcp a b]? ≠ b[lcp a b]?
  | [], b => by simp
  | x :: a, [] => by simp
  | x :: a, y :: b => by
    have ih := lcp_stop a b
    unfold lcp; split
    · rename_i h; subst h
      intro h1 h2
      simp only [List.length_cons] at h1 h2
      simpa using ih (by omega) (by omega)
    · rename_i h; intro _ _; simpa using h

/-- A number that is a common beginning and beyond which the two part is the length. -/
theorem lcp_eq : ∀ (a b : List UInt8) (n : Nat), n ≤ a.length → n ≤ b.length → a.take n = b.take n → (n < a.length → n < b.length → a.getD n 0 ≠ b.getD n 0) → lcp a b = n
  | [], b, n, h1, _, _, _ => by cases b <;> simp [lcp] at * <;> omega
  | x :: a, [], n, _, h2, _, _ => by simp [lcp] at *; omega
  | x :: a, y :: b, 0, _, _, _, h4 => by
    have := h4 (by simp) (by simp)
    simp at this
    simp [lcp, this]
  | x :: a, y :: b, n + 1, h1, h2, h3, h4 => by
    simp at h1 h2 h3
    have := lcp_eq a b n h1 h2 h3.2 (by simpa using h4)
    simp [lcp, h3.1, this]

/-- A call that returns v and only reads (it may draw). -/
def RetD (v : Value) (w : World) (e : Ending) (w' : World) : Prop := e = .returned v ∧ ∃ n, w' = w.drewN n

theorem retD {v v' : Value} {w w' : World} (n : Nat) (hv : v' = v) (hw : w' = w.drewN n) : RetD v w (.returned v') w' := ⟨by rw [hv], n, hw⟩
theorem retD0 {v v' : Value} {w : World} (hv : v' = v) : RetD v w (.returned v') w := ⟨by rw [hv], 0, rfl⟩

theorem results_tmp4 {fn : Func} {t u v x : Tmp} (h : fn.results = #[.tmp t, .tmp u, .tmp v, .tmp x]) (tmps : Array Value) (P : Program) (w : World) :
    (results fn tmps).run P w = .ok (.tuple #[tmps.getD t undef, tmps.getD u undef, tmps.getD v undef, tmps.getD x undef]) w := by
  simp [results, h]
theorem results_tmp3 {fn : Func} {t u v : Tmp} (h : fn.results = #[.tmp t, .tmp u, .tmp v]) (tmps : Array Value) (P : Program) (w : World) :
    (results fn tmps).run P w = .ok (.tuple #[tmps.getD t undef, tmps.getD u undef, tmps.getD v undef]) w := by
  simp [results, h]

/-- A region that draws its order, its operations but for the last ones reading only: the world behind the draw under a name. -/
theorem wp_region_tail {P : Program} {id : Nat} {Q : Exit → Act → World → Prop} {a : Act} {w W : World} {l : List Oper} (n : Nat) (hm : P.follows .mixedOrders = true) (hB : Region.lexTailB .any l.toArray n = true) (hW : w.drew = W)
    (h : wpStill P l.toArray W (fun a' => wpList P l.toArray Q (l.drop n) a' W) (l.take n) a) : (Code.region id l.toArray true).wp P Q a w := by
  subst hW
  exact wp_region_still_tail n hm hB h

/-- The slice value v, not nil, of bytes l as memory has them now. -/
def BS (w : World) (v : Value) (l : List UInt8) : Prop :=
  ∃ b o c, v = .slice (some ⟨b, o, none⟩) l.length c ∧ l.length ≤ c ∧ c ≤ 1000000000 ∧
    ∀ i, i < l.length → w.cell? ⟨b, o + i, none⟩ = some (.int .u8 ((l.getD i 0).toNat : Int))

end Go.Proofs.Ytmdbnjepajifpaa

/- longestCommonPrefixLength returns the length of the longest common beginning. -/
namespace Go.Proofs.Ytmdbnjepajifpaa
open Go.RowKit

theorem lcp_step {K L : List UInt8} {k : Nat} {x : UInt8} (h1 : k < K.length) (h2 : k < L.length) (HT : Hid (L.take k = K.take k)) (Hx : Hid (K.getD k 0 = x)) (Hy : Hid (L.getD k 0 = x)) :
    Hid (L.take (k + 1) = K.take (k + 1)) := by
  show L.take (k + 1) = K.take (k + 1)
  have hx := Hx.out
  have hy := Hy.out
  rw [List.take_succ_eq_append_getElem h1, List.take_succ_eq_append_getElem h2, HT.out]
  rw [List.getD_eq_getElem?_getD, List.getElem?_eq_getElem h1] at hx
  rw [List.getD_eq_getElem?_getD, List.getElem?_eq_getElem h2] at hy
  simp at hx hy
  rw [hx, hy]

set_option maxHeartbeats 1600000 in
theorem lcp_any (w : World) (p kb ko kc nb no nc : Nat) (K L : List UInt8)
    (hp : w.cell? ⟨p, 0, none⟩ = some (.slice (some ⟨nb, no, none⟩) L.length nc))
    (hk : ∀ i, i < K.length → w.cell? ⟨kb, ko + i, none⟩ = some (.int .u8 ((K.getD i 0).toNat : Int)))
    (hn : ∀ i, i < L.length → w.cell? ⟨nb, no + i, none⟩ = some (.int .u8 ((L.getD i 0).toNat : Int)))
    (hkl : K.length ≤ 1000000000) (_hnl : L.length ≤ 1000000000) :
    Calls Try.prog 70 #[.pointer (some ⟨p, 0, none⟩), .slice (some ⟨kb, ko, none⟩) K.length kc] w (RetD (.int .i64 (lcp L K : Nat)) w) := by
  go_enter Try.func70, Try.ntmps70
  go_wp2_with fail
  go_loopw [4] (fun i wr => ∃ k n : Nat, k ≤ K.length ∧ k ≤ L.length ∧ i = .int .i64 k ∧ wr = w.drewN n ∧ Hid (L.take k = K.take k)) (fun i _ => K.length - (intOf i).toNat)
  case atStart => exact ⟨0, 0, Nat.zero_le _, Nat.zero_le _, rfl, rfl, (rfl : L.take 0 = K.take 0)⟩
  case round =>
    obtain ⟨k, n, hkk, hkL, rfl, rfl, HT⟩ := hrel
    by_cases h1 : k < K.length
    · by_cases h2 : k < L.length
      · have c1 := hk k h1
        have c2 := hn k h2
        clear hk hn
        obtain ⟨x, hx⟩ : ∃ x, K.getD k 0 = x := ⟨_, rfl⟩
        obtain ⟨y, hy⟩ : ∃ y, L.getD k 0 = y := ⟨_, rfl⟩
        rw [hx] at c1
        rw [hy] at c2
        have Hx := Lib.hid hx
        have Hy := Lib.hid hy
        clear hx hy
        have g1 : (k : Int) < (K.length : Int) := by omega
        have g2 : (k : Int) < (L.length : Int) := by omega
        by_cases h3 : x = y
        · subst h3
          go_wp2_with fail
          go_quiet (fail)
          go_wp2_with fail
          go_roundw
          case rel => exact ⟨k + 1, n + nq, by omega, by omega, by go_num, rfl, lcp_step (by omega) (by omega) HT Hx Hy⟩
          case measure => simp [intOf]; omega
        · have h4 : ((x.toNat : Int) == (y.toNat : Int)) = false := by
            rw [beq_eq_false_iff_ne]; intro h; exact h3 (UInt8.toNat_inj.1 (by omega))
          go_wp2_with fail
          go_quiet (fail)
          go_wp2_with fail
          go_ret
          exact retD (n + nq) (by rw [lcp_eq L K k (by omega) (by omega) HT.out (fun _ _ => by rw [Hx.out, Hy.out]; exact fun e => h3 e.symm)]; rfl) (World.drewN_drewN _ _ _)
      · have g1 : (k : Int) < (K.length : Int) := by omega
        have g2 : decide ((k : Int) < (L.length : Int)) = false := by simp; omega
        have g3 : decide (k < L.length) = false := by simp; omega
        clear hk hn
        go_wp2_with fail
        go_quiet (fail)
        go_wp2_with fail
        go_ret
        exact retD (n + nq) (by rw [lcp_eq L K k (by omega) (by omega) HT.out (fun _ _ => by omega)]; rfl) (World.drewN_drewN _ _ _)
    · have g2 : decide ((k : Int) < (K.length : Int)) = false := by simp; omega
      have g3 : decide (k < K.length) = false := by simp; omega
      clear hk hn
      go_wp2_with fail
      go_quiet (fail)
      go_wp2_with fail
      go_ret
      exact retD (n + nq) (by rw [lcp_eq L K k (by omega) (by omega) HT.out (fun _ _ => by omega)]; rfl) (World.drewN_drewN _ _ _)

end Go.Proofs.Ytmdbnjepajifpaa

/- A node's list of children in memory: sparse or dense; the first byte of a node's part of a key. Definitions and the facts on single cells that they give. -/
namespace Go.Proofs.Ytmdbnjepajifpaa
open Go.RowKit

/-- A pointer to the head of block p. -/
@[reducible] def ptr (p : Nat) : Value := .pointer (some ⟨p, 0, none⟩)
def optr : Option Nat → Value
  | some p => ptr p
  | none => .pointer none
@[simp, go_sem] theorem optr_some (p : Nat) : optr (some p) = .pointer (some ⟨p, 0, none⟩) := rfl
@[simp, go_sem] theorem optr_none : optr none = .pointer none := rfl

/-- A list of children: sparse (its struct, its array, the capacity, the children in their order) or dense (its struct, its array, the least byte, the head's index, the places). -/
inductive CL
  | sp (l a cap : Nat) (ks : List Nat)
  | dn (l a mn hi : Nat) (arr : List (Option Nat))

def CL.kids : CL → List Nat
  | .sp _ _ _ ks => ks
  | .dn _ _ _ _ arr => arr.filterMap id
def CL.l : CL → Nat
  | .sp l _ _ _ => l
  | .dn l _ _ _ _ => l
def CL.a : CL → Nat
  | .sp _ a _ _ => a
  | .dn _ a _ _ _ => a
def CL.ty : CL → Nat
  | .sp _ _ _ _ => 102
  | .dn _ _ _ _ _ => 145
def CL.val (c : CL) : Value := .iface c.ty (ptr c.l)

/-- The blocks of a list of children. -/
def CLraw (w : World) : CL → Prop
  | .sp l a cap ks => w.heap[l]? = some (.cells #[.slice (some ⟨a, 0, none⟩) ks.length cap] 105 (0, 0)) ∧ ks.length ≤ cap ∧ cap ≤ 12 ∧
      ∃ C : Array Value, w.heap[a]? = some (.cells C 50 (0, 0)) ∧ C.size = cap ∧ ∀ (i c : Nat), ks[i]? = some c → C[i]? = some (ptr c)
  | .dn l a mn hi arr => w.heap[l]? = some (.cells #[.int .i64 mn, .int .i64 ((mn : Int) + arr.length - 1), .int .i64 (arr.filterMap id).length, .int .i64 hi, .slice (some ⟨a, 0, none⟩) arr.length arr.length] 147 (0, 0)) ∧
      mn + arr.length ≤ 256 ∧ hi < arr.length ∧ (∀ j, j < hi → arr[j]? = some none) ∧ w.heap[a]? = some (.cells (arr.map optr).toArray 50 (0, 0))

/-- The first byte of node p's part of a key is b, and can be read. -/
def FB (w : World) (p : Nat) (b : UInt8) : Prop :=
  ∃ sb so n c, w.cell? ⟨p, 0, none⟩ = some (.slice (some ⟨sb, so, none⟩) n c) ∧ 0 < n ∧ w.cell? ⟨sb, so, none⟩ = some (.int .u8 (b.toNat : Int))

/-- In a dense list a child stands at its byte's place. -/
def CL.placed (fb : Nat → UInt8) : CL → Prop
  | .sp _ _ _ _ => True
  | .dn _ _ mn _ arr => ∀ (i c : Nat), arr[i]? = some (some c) → (fb c).toNat = mn + i

/-- The children's first bytes can be read, and are distinct. -/
structure KB (w : World) (fb : Nat → UInt8) (cl : CL) : Prop where
  rd : ∀ c, c ∈ cl.kids → FB w c (fb c)
  ne : ∀ c d, c ∈ cl.kids → d ∈ cl.kids → fb c = fb d → c = d
  nodup : cl.kids.Nodup
  placed : cl.placed fb

theorem cell_of_block {w : World} {b : Nat} {C : Array Value} {t : TypeId} {fr : Nat × Nat} (h : w.heap[b]? = some (.cells C t fr)) (i : Nat) : w.cell? ⟨b, i, none⟩ = C[i]? := by
  simp [World.cell?, h]

theorem free_of_block {w : World} {b : Nat} {C : Array Value} {t : TypeId} (h : w.heap[b]? = some (.cells C t (0, 0))) (i : Nat) : w.frozen? ⟨b, i, none⟩ = false := by
  simp [World.frozen?, h]

theorem drop_at {α : Type} {l : List α} {k : Nat} {c : α} (h : l[k]? = some c) : l.drop k = c :: l.drop (k + 1) := by
  obtain ⟨hk, rfl⟩ := List.getElem?_eq_some_iff.1 h
  exact List.drop_eq_getElem_cons hk

theorem find_here {l : List Nat} {k c : Nat} {fb : Nat → UInt8} {b : UInt8} (h : l[k]? = some c) (hb : fb c = b) : (l.drop k).find? (fun c => fb c == b) = some c := by
  rw [drop_at h]; simp [hb]

theorem find_on {l : List Nat} {k c : Nat} {fb : Nat → UInt8} {b : UInt8} (h : l[k]? = some c) (hb : ¬ fb c = b) : (l.drop k).find? (fun c => fb c == b) = (l.drop (k + 1)).find? (fun c => fb c == b) := by
  rw [drop_at h]; simp [hb]

/-- The child that begins with byte b. -/
def CL.child (fb : Nat → UInt8) (cl : CL) (b : UInt8) : Option Nat := cl.kids.find? (fun c => fb c == b)

end Go.Proofs.Ytmdbnjepajifpaa

/- next, length and head of a list of children, sparse or dense. -/
namespace Go.Proofs.Ytmdbnjepajifpaa
open Go.RowKit

set_option maxHeartbeats 1600000 in
theorem sp_next (w : World) (fb : Nat → UInt8) (l a cap : Nat) (ks : List Nat) (b : UInt8) (hraw : CLraw w (.sp l a cap ks)) (hkb : ∀ c, c ∈ ks → FB w c (fb c)) :
    Calls Try.prog 116 #[ptr l, .int .u8 (b.toNat : Int)] w (RetD (optr (ks.find? (fun c => fb c == b))) w) := by
  obtain ⟨hl, hcap, hc2, C, ha, hC, hk⟩ := hraw
  have c0 : w.cell? ⟨l, 0, none⟩ = some (.slice (some ⟨a, 0, none⟩) ks.length cap) := by rw [cell_of_block hl]; rfl
  have hcells : ∀ (i c : Nat), ks[i]? = some c → w.cell? ⟨a, i, none⟩ = some (ptr c) := fun i c h => by rw [cell_of_block ha]; exact hk i c h
  have HC := Lib.hid hcells
  have HK := Lib.hid hkb
  have hcl : ks.length ≤ 1000 := by omega
  clear hl ha hC hk hcells hkb
  go_enter Try.func116, Try.ntmps116
  go_wp2_with fail
  go_loop [12] (fun i => ∃ k : Nat, k ≤ ks.length ∧ i = .int .i64 k ∧ Hid (ks.find? (fun c => fb c == b) = (ks.drop k).find? (fun c => fb c == b))) (fun i => ks.length - (intOf i).toNat)
  case atStart => exact ⟨0, Nat.zero_le _, rfl, (rfl : ks.find? _ = (ks.drop 0).find? _)⟩
  case round =>
    obtain ⟨k, hkk, rfl, HF⟩ := hrel
    by_cases h1 : k < ks.length
    · obtain ⟨c, hc⟩ : ∃ c, ks[k]? = some c := ⟨ks[k], by simp [h1]⟩
      have c1 := HC.out k c hc
      obtain ⟨sb, so, n, cp, c2, hn, c3⟩ := HK.out c (List.mem_of_getElem? hc)
      have g1 : (k : Int) < (ks.length : Int) := by omega
      have HF2 := Lib.hid hc
      clear hc
      by_cases h3 : fb c = b
      · have h4 : (((fb c).toNat : Int) == (b.toNat : Int)) = true := by simp [h3]
        go_wp2_with fail
        go_ret
        exact retD0 (by rw [HF.out, find_here HF2.out h3]; rfl)
      · have h4 : (((fb c).toNat : Int) == (b.toNat : Int)) = false := by
          rw [beq_eq_false_iff_ne]; intro h; exact h3 (UInt8.toNat_inj.1 (by omega))
        go_wp2_with fail
        go_round
        case rel => exact ⟨k + 1, by omega, by go_num, HF.out.trans (find_on HF2.out h3)⟩
        case measure => simp [intOf]; omega
    · go_wp2_with fail
      go_ret
      exact retD0 (by rw [HF.out, List.drop_eq_nil_of_le (by omega)]; rfl)


theorem dn_find {fb : Nat → UInt8} {mn : Nat} {arr : List (Option Nat)} {b : UInt8} (hp : ∀ (i c : Nat), arr[i]? = some (some c) → (fb c).toNat = mn + i)
    (x : Option Nat) (hx : mn ≤ b.toNat → arr[b.toNat - mn]? = some x ∨ (arr[b.toNat - mn]? = none ∧ x = none)) (hlo : b.toNat < mn → x = none) :
    (arr.filterMap id).find? (fun c => fb c == b) = x := by
  cases hf : (arr.filterMap id).find? (fun c => fb c == b) with
  | some c =>
    have h1 := List.mem_of_find?_eq_some hf
    have h2 : fb c = b := by simpa using List.find?_some hf
    simp only [List.mem_filterMap, id] at h1
    obtain ⟨y, hy, rfl⟩ := h1
    obtain ⟨i, hi⟩ := List.mem_iff_getElem?.1 hy
    have h3 := hp i c hi
    rw [h2] at h3
    have h4 : b.toNat - mn = i := by omega
    rcases hx (by omega) with h | ⟨h, _⟩
    · rw [h4, hi] at h
      simpa using h
    · rw [h4, hi] at h; simp at h
  | none =>
    by_cases hm : mn ≤ b.toNat
    · rcases hx hm with h | ⟨_, h⟩
      · cases x with
        | none => rfl
        | some c =>
          exfalso
          rw [List.find?_eq_none] at hf
          have h1 := hf c (by simp only [List.mem_filterMap, id]; exact ⟨some c, List.mem_of_getElem? h, rfl⟩)
          have h2 := hp _ c h
          apply h1
          simp only [beq_iff_eq]
          exact UInt8.toNat_inj.1 (by omega)
      · exact h.symm
    · exact (hlo (by omega)).symm

set_option maxHeartbeats 1600000 in
theorem dn_next (w : World) (fb : Nat → UInt8) (l a mn hi : Nat) (arr : List (Option Nat)) (b : UInt8) (hraw : CLraw w (.dn l a mn hi arr)) (hp : ∀ (i c : Nat), arr[i]? = some (some c) → (fb c).toNat = mn + i) :
    Calls Try.prog 148 #[ptr l, .int .u8 (b.toNat : Int)] w (RetD (optr ((arr.filterMap id).find? (fun c => fb c == b))) w) := by
  obtain ⟨hl, hcap, hhi, hnone, ha⟩ := hraw
  have c0 : w.cell? ⟨l, 0, none⟩ = some (.int .i64 mn) := by rw [cell_of_block hl]; rfl
  have c1 : w.cell? ⟨l, 1, none⟩ = some (.int .i64 ((mn : Int) + arr.length - 1)) := by rw [cell_of_block hl]; rfl
  have c4 : w.cell? ⟨l, 4, none⟩ = some (.slice (some ⟨a, 0, none⟩) arr.length arr.length) := by rw [cell_of_block hl]; rfl
  have hbb : b.toNat < 256 := b.toNat_lt
  by_cases h1 : b.toNat < mn
  · rw [dn_find hp none (by omega) (fun _ => rfl)]
    clear hp hnone hl ha
    have g1 : (b.toNat : Int) < (mn : Int) := by omega
    go_enter Try.func148, Try.ntmps148
    go_wp2_with fail
    go_ret
    exact retD0 rfl
  · by_cases h2 : mn + arr.length ≤ b.toNat
    · rw [dn_find hp none (fun _ => .inr ⟨List.getElem?_eq_none (by omega), rfl⟩) (fun _ => rfl)]
      clear hp hnone hl ha
      have g1 : ¬ (b.toNat : Int) < (mn : Int) := by omega
      have g2 : (mn : Int) + (arr.length : Int) - 1 < (b.toNat : Int) := by omega
      go_enter Try.func148, Try.ntmps148
      go_wp2_with fail
      go_ret
      exact retD0 rfl
    · have hi2 : b.toNat - mn < arr.length := by omega
      obtain ⟨x, hx⟩ : ∃ x, arr[b.toNat - mn]? = some x := ⟨_, List.getElem?_eq_getElem hi2⟩
      rw [dn_find hp x (fun _ => .inl hx) (by omega)]
      have c5 : w.cell? ⟨a, b.toNat - mn, none⟩ = some (optr x) := by rw [cell_of_block ha]; simp [hx]
      clear hp hnone hl ha hx
      have g1 : ¬ (b.toNat : Int) < (mn : Int) := by omega
      have g2 : ¬ (mn : Int) + (arr.length : Int) - 1 < (b.toNat : Int) := by omega
      have e1 : IntKind.i64.wrap ((b.toNat : Int) - (mn : Int)) = (b.toNat : Int) - (mn : Int) := IntWalk.i64_in _ (by omega)
      have e2 : (0 : Int) ≤ (b.toNat : Int) - (mn : Int) := by omega
      have e3 : ((b.toNat : Int) - (mn : Int)).toNat = b.toNat - mn := by omega
      have e4 : (b.toNat : Int) - (mn : Int) < (arr.length : Int) := by omega
      go_enter Try.func148, Try.ntmps148
      go_wp2_with fail
      go_quiet (fail)
      go_wp2_with fail
      go_ret
      exact retD _ rfl rfl

theorem sp_len0 (w : World) (l n : Nat) (v : Option Addr) (cap : Nat) (c0 : w.cell? ⟨l, 0, none⟩ = some (.slice v n cap)) :
    Calls Try.prog 115 #[ptr l] w (RetD (.int .i64 n) w) := by
  go_enter Try.func115, Try.ntmps115
  go_wp2_with fail
  go_ret
  exact retD0 rfl

theorem sp_len (w : World) (l a cap : Nat) (ks : List Nat) (hraw : CLraw w (.sp l a cap ks)) :
    Calls Try.prog 115 #[ptr l] w (RetD (.int .i64 ks.length) w) := by
  obtain ⟨hl, hcap, hc2, C, ha, hC, hk⟩ := hraw
  have c0 : w.cell? ⟨l, 0, none⟩ = some (.slice (some ⟨a, 0, none⟩) ks.length cap) := by rw [cell_of_block hl]; rfl
  clear hl ha hC hk
  go_enter Try.func115, Try.ntmps115
  go_wp2_with fail
  go_ret
  exact retD0 rfl

theorem dn_len (w : World) (l a mn hi : Nat) (arr : List (Option Nat)) (hraw : CLraw w (.dn l a mn hi arr)) :
    Calls Try.prog 147 #[ptr l] w (RetD (.int .i64 (arr.filterMap id).length) w) := by
  obtain ⟨hl, hcap, hhi, hnone, ha⟩ := hraw
  have c2 : w.cell? ⟨l, 2, none⟩ = some (.int .i64 (arr.filterMap id).length) := by rw [cell_of_block hl]; rfl
  clear hl ha hnone
  go_enter Try.func147, Try.ntmps147
  go_wp2_with fail
  go_ret
  exact retD0 rfl

/-- The head of a list with one child. -/
theorem sp_head (w : World) (l a cap c : Nat) (hraw : CLraw w (.sp l a cap [c])) :
    Calls Try.prog 114 #[ptr l] w (RetD (ptr c) w) := by
  obtain ⟨hl, hcap, hc2, C, ha, hC, hk⟩ := hraw
  have c0 : w.cell? ⟨l, 0, none⟩ = some (.slice (some ⟨a, 0, none⟩) 1 cap) := by rw [cell_of_block hl]; rfl
  have c1 : w.cell? ⟨a, 0, none⟩ = some (ptr c) := by rw [cell_of_block ha]; exact hk 0 c rfl
  clear hl ha hC hk
  go_enter Try.func114, Try.ntmps114
  go_wp2_with fail
  go_ret
  exact retD0 rfl

theorem dn_head' (w : World) (l a mn hi : Nat) (arr : List (Option Nat)) (x : Option Nat) (hraw : CLraw w (.dn l a mn hi arr)) (hx : arr[hi]? = some x) :
    Calls Try.prog 146 #[ptr l] w (RetD (optr x) w) := by
  obtain ⟨hl, hcap, hhi, hnone, ha⟩ := hraw
  have c3 : w.cell? ⟨l, 3, none⟩ = some (.int .i64 hi) := by rw [cell_of_block hl]; rfl
  have c4 : w.cell? ⟨l, 4, none⟩ = some (.slice (some ⟨a, 0, none⟩) arr.length arr.length) := by rw [cell_of_block hl]; rfl
  have c5 : w.cell? ⟨a, hi, none⟩ = some (optr x) := by rw [cell_of_block ha]; simp [hx]
  have g1 : (hi : Int) < (arr.length : Int) := by omega
  clear hl ha hnone hx
  go_enter Try.func146, Try.ntmps146
  go_wp2_with fail
  go_quiet (fail)
  go_wp2_with fail
  go_ret
  exact retD _ rfl rfl

theorem dn_head (w : World) (l a mn hi : Nat) (arr : List (Option Nat)) (hraw : CLraw w (.dn l a mn hi arr)) :
    ∃ x, (x = none ∨ ∃ c, x = some c ∧ c ∈ arr.filterMap id) ∧ Calls Try.prog 146 #[ptr l] w (RetD (optr x) w) := by
  obtain ⟨x, hx⟩ : ∃ x, arr[hi]? = some x := ⟨_, List.getElem?_eq_getElem hraw.2.2.1⟩
  refine ⟨x, ?_, dn_head' w l a mn hi arr x hraw hx⟩
  cases x with
  | none => exact .inl rfl
  | some c => exact .inr ⟨c, rfl, by simp only [List.mem_filterMap, id]; exact ⟨some c, List.mem_of_getElem? hx, rfl⟩⟩

end Go.Proofs.Ytmdbnjepajifpaa

/- The shape of a trie, apart from memory: nodes, the word that each stands for, and what follows for any two of them. -/
namespace Go.Proofs.Ytmdbnjepajifpaa
open Go.RowKit

/-- A node: its part of the key (the bytes' block, where in it, the capacity; or nil), its item, its two numbers, its children. -/
structure Nd where
  np : Bool
  sb : Nat
  so : Nat
  sc : Nat
  px : List UInt8
  it : Option Int
  mp : Int
  mc : Int
  cl : CL

def Nd.fb (d : Nd) : UInt8 := d.px.headD 0
def itv : Option Int → Value
  | none => .nilIface
  | some n => .iface 3 (.int .i64 n)
def Nd.pv (d : Nd) : Value := if d.np then .slice none 0 0 else .slice (some ⟨d.sb, d.so, none⟩) d.px.length d.sc
def Nd.obj (d : Nd) : Obj := .cells #[d.pv, itv d.it, .int .i64 d.mp, .int .i64 d.mc, d.cl.val] 82 (0, 0)

/-- The shape: N the nodes, wd the word of each; S, sh: of each block of bytes the word of which it holds a part, and from which place on. -/
structure Inv (root : Nat) (N : Nat → Prop) (nd : Nat → Nd) (wd : Nat → List UInt8) (S : Nat → List UInt8) (sh : Nat → Nat) : Prop where
  root_mem : N root
  root_wd : wd root = (nd root).px
  np : ∀ p, N p → p ≠ root → (nd p).np = false
  kid : ∀ p, N p → ∀ c, c ∈ (nd p).cl.kids → N c ∧ c ≠ root ∧ wd c = wd p ++ (nd c).px ∧ (nd c).px ≠ []
  ne : ∀ p, N p → ∀ c d, c ∈ (nd p).cl.kids → d ∈ (nd p).cl.kids → (nd c).fb = (nd d).fb → c = d
  nodup : ∀ p, N p → (nd p).cl.kids.Nodup
  placed : ∀ p, N p → (nd p).cl.placed (fun c => (nd c).fb)
  par : ∀ c, N c → c ≠ root → ∃ p, N p ∧ c ∈ (nd p).cl.kids
  sepl : ∀ p q, N p → N q → (nd p).cl.l = (nd q).cl.l → p = q
  sepa : ∀ p q, N p → N q → (nd p).cl.a = (nd q).cl.a → p = q
  len : ∀ p, N p → (wd p).length ≤ 10
  chain : ∀ p, N p → (nd p).np = false → wd p <+: S (nd p).sb ∧ (nd p).so + sh (nd p).sb + (nd p).px.length = (wd p).length

section
variable {root : Nat} {N : Nat → Prop} {nd : Nat → Nd} {wd : Nat → List UInt8} {S : Nat → List UInt8} {sh : Nat → Nat}

theorem Inv.kid_longer (I : Inv root N nd wd S sh) {p c : Nat} (hp : N p) (hc : c ∈ (nd p).cl.kids) : (wd p).length < (wd c).length := by
  obtain ⟨_, _, h1, h2⟩ := I.kid p hp c hc
  have h3 : 0 < (nd c).px.length := List.length_pos_iff.2 h2
  rw [h1, List.length_append]
  omega

theorem Inv.kid_pre (I : Inv root N nd wd S sh) {p c : Nat} (hp : N p) (hc : c ∈ (nd p).cl.kids) : wd p <+: wd c := by
  rw [(I.kid p hp c hc).2.2.1]; exact List.prefix_append _ _

/-- The root's word begins every word. -/
theorem Inv.root_pre (I : Inv root N nd wd S sh) : ∀ (n : Nat) (r : Nat), (wd r).length ≤ n → N r → wd root <+: wd r := by
  intro n
  induction n with
  | zero =>
    intro r hn hr
    by_cases h : r = root
    · subst h; exact List.prefix_refl _
    · obtain ⟨p, hp, hc⟩ := I.par r hr h
      have := I.kid_longer hp hc
      omega
  | succ n ih =>
    intro r hn hr
    by_cases h : r = root
    · subst h; exact List.prefix_refl _
    · obtain ⟨p, hp, hc⟩ := I.par r hr h
      have := I.kid_longer hp hc
      exact (ih p (by omega) hp).trans (I.kid_pre hp hc)

theorem Inv.root_le (I : Inv root N nd wd S sh) {r : Nat} (hr : N r) : wd root <+: wd r := I.root_pre _ r (Nat.le_refl _) hr

/-- The byte of a word behind its parent's word is the child's first byte. -/
theorem Inv.byte_at (I : Inv root N nd wd S sh) {p c : Nat} (hp : N p) (hc : c ∈ (nd p).cl.kids) {u : List UInt8} (h : wd c <+: u) : u[(wd p).length]? = some (nd c).fb := by
  obtain ⟨_, _, h1, h2⟩ := I.kid p hp c hc
  obtain ⟨t, rfl⟩ := h
  rw [h1]
  unfold Nd.fb
  cases hx : (nd c).px with
  | nil => exact absurd hx h2
  | cons x l => simp

theorem Inv.same_kid (I : Inv root N nd wd S sh) {p c d : Nat} (hp : N p) (hc : c ∈ (nd p).cl.kids) (hd : d ∈ (nd p).cl.kids) {u : List UInt8} (h1 : wd c <+: u) (h2 : wd d <+: u) : c = d := by
  have a := I.byte_at hp hc h1
  have b := I.byte_at hp hd h2
  rw [a] at b
  exact I.ne p hp c d hc hd (by simpa using b)

theorem pre_total {α : Type} {a b u : List α} (h1 : a <+: u) (h2 : b <+: u) : a <+: b ∨ b <+: a := by
  rcases Nat.le_total a.length b.length with h | h
  · exact .inl (List.prefix_of_prefix_length_le h1 h2 h)
  · exact .inr (List.prefix_of_prefix_length_le h2 h1 h)

/-- What stands beneath a node's word is the node or stands beneath one of its children. -/
theorem Inv.desc_aux (I : Inv root N nd wd S sh) : ∀ (n : Nat) (q r : Nat), (wd q).length + (wd r).length ≤ n → N q → N r → wd q <+: wd r → r = q ∨ ∃ c, c ∈ (nd q).cl.kids ∧ wd c <+: wd r := by
  intro n
  induction n with
  | zero =>
    intro q r hn hq hr hpre
    have pos : ∀ x, N x → x ≠ root → 0 < (wd x).length := fun x hx hne => by
      obtain ⟨p, hp, hc⟩ := I.par x hx hne
      have := I.kid_longer hp hc
      omega
    left
    by_cases h1 : q = root
    · by_cases h2 : r = root
      · rw [h1, h2]
      · have := pos r hr h2; omega
    · have := pos q hq h1; omega
  | succ n ih =>
    intro q r hn hq hr hpre
    by_cases hrr : r = root
    · by_cases hqr : q = root
      · left; rw [hrr, hqr]
      · exfalso
        obtain ⟨p, hp, hc⟩ := I.par q hq hqr
        have h1 := I.kid_longer hp hc
        have h2 := (I.root_le hp).length_le
        have h3 := hpre.length_le
        rw [hrr] at h3
        omega
    · obtain ⟨P, hP, hcP⟩ := I.par r hr hrr
      have hlP := I.kid_longer hP hcP
      have hpP := I.kid_pre hP hcP
      rcases Nat.lt_or_ge (wd P).length (wd q).length with hlt | hge
      · -- P is shorter than q
        have hPq : wd P <+: wd q := List.prefix_of_prefix_length_le hpP hpre (by omega)
        rcases ih P q (by omega) hP hq hPq with h | ⟨c, hc, hcq⟩
        · rw [h] at hlt; omega
        · have hcr : c = r := I.same_kid hP hc hcP (hcq.trans hpre) (List.prefix_refl _)
          subst hcr
          -- q and r have one word
          have hlen : (wd q).length = (wd c).length := Nat.le_antisymm hpre.length_le hcq.length_le
          have heq : wd q = wd c := hpre.eq_of_length hlen
          left
          have hqr : q ≠ root := fun h => by
            have h2 := (I.root_le hP).length_le
            rw [h] at hlt; omega
          obtain ⟨Q, hQ, hcQ⟩ := I.par q hq hqr
          have hlQ := I.kid_longer hQ hcQ
          have hpQ := I.kid_pre hQ hcQ
          rcases Nat.lt_trichotomy (wd P).length (wd Q).length with h | h | h
          · have hPQ : wd P <+: wd Q := List.prefix_of_prefix_length_le hPq hpQ (by omega)
            rcases ih P Q (by omega) hP hQ hPQ with h' | ⟨c3, hc3, h3⟩
            · rw [h'] at h; omega
            · have : c3 = c := I.same_kid hP hc3 hcP (h3.trans (hpQ.trans hpre)) (List.prefix_refl _)
              subst this
              have := h3.length_le
              omega
          · have hPQ : wd P <+: wd Q := List.prefix_of_prefix_length_le hPq hpQ (by omega)
            rcases ih P Q (by omega) hP hQ hPQ with h' | ⟨c3, hc3, h3⟩
            · subst h'
              exact I.same_kid hP hcP hcQ (List.prefix_refl _) (by rw [heq]; exact List.prefix_refl _)
            · have := h3.length_le
              have := I.kid_longer hP hc3
              omega
          · have hQP : wd Q <+: wd P := List.prefix_of_prefix_length_le hpQ hPq (by omega)
            rcases ih Q P (by omega) hQ hP hQP with h' | ⟨c3, hc3, h3⟩
            · rw [h'] at h; omega
            · have : c3 = q := I.same_kid hQ hc3 hcQ (h3.trans hPq) (List.prefix_refl _)
              subst this
              have := h3.length_le
              omega
      · have hqP : wd q <+: wd P := List.prefix_of_prefix_length_le hpre hpP hge
        rcases ih q P (by omega) hq hP hqP with h | ⟨c, hc, h⟩
        · subst h; exact .inr ⟨r, hcP, List.prefix_refl _⟩
        · exact .inr ⟨c, hc, h.trans hpP⟩

theorem Inv.desc (I : Inv root N nd wd S sh) {q r : Nat} (hq : N q) (hr : N r) (h : wd q <+: wd r) : r = q ∨ ∃ c, c ∈ (nd q).cl.kids ∧ wd c <+: wd r :=
  I.desc_aux _ q r (Nat.le_refl _) hq hr h

theorem Inv.inj (I : Inv root N nd wd S sh) {q r : Nat} (hq : N q) (hr : N r) (h : wd q = wd r) : r = q := by
  rcases I.desc hq hr (by rw [h]; exact List.prefix_refl _) with h' | ⟨c, hc, h'⟩
  · exact h'
  · exfalso
    have := I.kid_longer hq hc
    have := h'.length_le
    rw [h] at *
    omega

/-- A child has one parent. -/
theorem Inv.par_unique (I : Inv root N nd wd S sh) {p q c : Nat} (hp : N p) (hq : N q) (hcp : c ∈ (nd p).cl.kids) (hcq : c ∈ (nd q).cl.kids) : p = q := by
  obtain ⟨hc, _, h1, _⟩ := I.kid p hp c hcp
  obtain ⟨_, _, h2, _⟩ := I.kid q hq c hcq
  have : wd p = wd q := by
    rw [h1] at h2
    exact List.append_cancel_right h2
  exact I.inj hq hp this.symm

end

end Go.Proofs.Ytmdbnjepajifpaa

/- A node in memory; the facts on cells that it gives; the methods that an interface value of a list of children has. -/
namespace Go.Proofs.Ytmdbnjepajifpaa
open Go.RowKit

/-- Memory holds the bytes k from place o of block b on. -/
def KS (w : World) (b o : Nat) (k : List UInt8) : Prop := ∀ i, i < k.length → w.cell? ⟨b, o + i, none⟩ = some (.int .u8 ((k.getD i 0).toNat : Int))

theorem KS.drop {w : World} {b o : Nat} {k : List UInt8} (h : KS w b o k) (c : Nat) : KS w b (o + c) (k.drop c) := by
  intro i hi
  simp only [List.length_drop] at hi
  have := h (c + i) (by omega)
  rw [show o + c + i = o + (c + i) by omega, this]
  simp [List.getD_eq_getElem?_getD]

theorem KS.take {w : World} {b o : Nat} {k : List UInt8} (h : KS w b o k) (c : Nat) : KS w b o (k.take c) := by
  intro i hi
  simp only [List.length_take] at hi
  rw [h i (by omega)]
  simp [List.getD_eq_getElem?_getD, show i < c by omega]

theorem KS.head {w : World} {b o : Nat} {k : List UInt8} (h : KS w b o k) {x : UInt8} (hx : k.head? = some x) : w.cell? ⟨b, o, none⟩ = some (.int .u8 (x.toNat : Int)) := by
  cases k with
  | nil => simp at hx
  | cons y l =>
    simp at hx; subst hx
    simpa using h 0 (by simp)

/-- A node in memory. -/
structure HN (w : World) (p : Nat) (d : Nd) : Prop where
  obj : w.heap[p]? = some d.obj
  raw : CLraw w d.cl
  le : d.px.length ≤ d.sc
  blk : d.np = false → ∃ (C : Array Value) (fr : Nat × Nat), w.heap[d.sb]? = some (.cells C 5 fr) ∧ d.so + d.sc ≤ C.size ∧ (∀ i, i < C.size → w.frozen? ⟨d.sb, i, none⟩ = false) ∧
    ∀ i, i < d.px.length → C[d.so + i]? = some (.int .u8 ((d.px.getD i 0).toNat : Int))

section
variable {w : World} {p : Nat} {d : Nd}

theorem HN.pv (h : HN w p d) : w.cell? ⟨p, 0, none⟩ = some d.pv := by rw [cell_of_block h.obj]; rfl
theorem HN.sl (h : HN w p d) (hn : d.np = false) : w.cell? ⟨p, 0, none⟩ = some (.slice (some ⟨d.sb, d.so, none⟩) d.px.length d.sc) := by rw [h.pv, Nd.pv, hn]; rfl
theorem HN.c1 (h : HN w p d) : w.cell? ⟨p, 1, none⟩ = some (itv d.it) := by rw [cell_of_block h.obj]; rfl
theorem HN.c2 (h : HN w p d) : w.cell? ⟨p, 2, none⟩ = some (.int .i64 d.mp) := by rw [cell_of_block h.obj]; rfl
theorem HN.c3 (h : HN w p d) : w.cell? ⟨p, 3, none⟩ = some (.int .i64 d.mc) := by rw [cell_of_block h.obj]; rfl
theorem HN.c4 (h : HN w p d) : w.cell? ⟨p, 4, none⟩ = some d.cl.val := by rw [cell_of_block h.obj]; rfl
theorem HN.fr (h : HN w p d) (i : Nat) : w.frozen? ⟨p, i, none⟩ = false := free_of_block h.obj i

theorem HN.ks (h : HN w p d) (hn : d.np = false) : KS w d.sb d.so d.px := by
  obtain ⟨C, fr, h1, _, _, h2⟩ := h.blk hn
  intro i hi
  rw [cell_of_block h1]
  exact h2 i hi

theorem HN.fbr (h : HN w p d) (hn : d.np = false) (hx : d.px ≠ []) : FB w p d.fb := by
  refine ⟨d.sb, d.so, _, _, h.sl hn, List.length_pos_iff.2 hx, (h.ks hn).head ?_⟩
  unfold Nd.fb
  cases hp : d.px with
  | nil => exact absurd hp hx
  | cons a l => rfl
end

section
variable {root : Nat} {N : Nat → Prop} {nd : Nat → Nd} {wd : Nat → List UInt8} {S : Nat → List UInt8} {sh : Nat → Nat} {w : World}
/-- A node's children's first bytes. -/
theorem Inv.kb (I : Inv root N nd wd S sh) (H : ∀ p, N p → HN w p (nd p)) {p : Nat} (hp : N p) : KB w (fun c => (nd c).fb) (nd p).cl where
  rd c hc := by
    obtain ⟨h1, h2, _, h4⟩ := I.kid p hp c hc
    exact (H c h1).fbr (I.np c h1 h2) h4
  ne c d hc hd h := I.ne p hp c d hc hd h
  nodup := I.nodup p hp
  placed := I.placed p hp
end

/-! ### draws turn nothing -/
theorem FB.dr {w : World} {p : Nat} {b : UInt8} (n : Nat) (h : FB w p b) : FB (w.drewN n) p b := h
theorem KB.dr {w : World} {fb : Nat → UInt8} {cl : CL} (n : Nat) (h : KB w fb cl) : KB (w.drewN n) fb cl := ⟨h.rd, h.ne, h.nodup, h.placed⟩
theorem CLraw.dr {w : World} {cl : CL} (n : Nat) (h : CLraw w cl) : CLraw (w.drewN n) cl := by cases cl <;> exact h
theorem HN.dr {w : World} {p : Nat} {d : Nd} (n : Nat) (h : HN w p d) : HN (w.drewN n) p d := ⟨h.obj, h.raw.dr n, h.le, h.blk⟩

/-! ### methods -/
def CL.fn (s d : Nat) : CL → Nat
  | .sp _ _ _ _ => s
  | .dn _ _ _ _ _ => d

theorem next_any (w : World) (fb : Nat → UInt8) (cl : CL) (b : UInt8) (hraw : CLraw w cl) (hk : KB w fb cl) :
    Calls Try.prog (cl.fn 116 148) #[ptr cl.l, .int .u8 (b.toNat : Int)] w (RetD (optr (cl.child fb b)) w) := by
  cases cl with
  | sp l a cap ks => exact sp_next w fb l a cap ks b hraw hk.rd
  | dn l a mn hi arr => exact dn_next w fb l a mn hi arr b hraw hk.placed

theorem len_any (w : World) (cl : CL) (hraw : CLraw w cl) :
    Calls Try.prog (cl.fn 115 147) #[ptr cl.l] w (RetD (.int .i64 cl.kids.length) w) := by
  cases cl with
  | sp l a cap ks => exact sp_len w l a cap ks hraw
  | dn l a mn hi arr => exact dn_len w l a mn hi arr hraw

/-- The head of a list with one child is that child, or nil. -/
theorem head_any (w : World) (cl : CL) (c : Nat) (hraw : CLraw w cl) (hc : cl.kids = [c]) :
    ∃ x, (x = none ∨ x = some c) ∧ Calls Try.prog (cl.fn 114 146) #[ptr cl.l] w (RetD (optr x) w) := by
  cases cl with
  | sp l a cap ks =>
    have : ks = [c] := hc
    subst this
    exact ⟨some c, .inr rfl, sp_head w l a cap c hraw⟩
  | dn l a mn hi arr =>
    obtain ⟨x, hx, h⟩ := dn_head w l a mn hi arr hraw
    refine ⟨x, ?_, h⟩
    rcases hx with rfl | ⟨d, rfl, hd⟩
    · exact .inl rfl
    · right
      have : d ∈ [c] := by rw [← hc]; exact hd
      simp at this
      rw [this]

theorem next_q (w : World) (fb : Nat → UInt8) (cl : CL) (b : UInt8) (hraw : CLraw w cl) (hk : KB w fb cl) (n : Nat) :
    Calls Try.prog (cl.fn 116 148) #[ptr cl.l, .int .u8 (b.toNat : Int)] (w.drewN n) (RetD (optr (cl.child fb b)) (w.drewN n)) :=
  next_any _ fb cl b (hraw.dr n) (hk.dr n)
theorem len_q (w : World) (cl : CL) (hraw : CLraw w cl) (n : Nat) :
    Calls Try.prog (cl.fn 115 147) #[ptr cl.l] (w.drewN n) (RetD (.int .i64 cl.kids.length) (w.drewN n)) :=
  len_any _ cl (hraw.dr n)

/-- longestCommonPrefixLength at a node. -/
theorem lcp_q (w : World) (p kb ko kc : Nat) (d : Nd) (K : List UInt8) (h : HN w p d) (hn : d.np = false) (hk : KS w kb ko K) (hkl : K.length ≤ 1000) (hl : d.px.length ≤ 1000) (n : Nat) :
    Calls Try.prog 70 #[ptr p, .slice (some ⟨kb, ko, none⟩) K.length kc] (w.drewN n) (RetD (.int .i64 (lcp d.px K : Nat)) (w.drewN n)) :=
  lcp_any (w.drewN n) p kb ko kc d.sb d.so d.sc K d.px (h.sl hn) hk (h.ks hn) (by omega) (by omega)

/-- A quiet contract inside a region that draws, behind draws. -/
theorem qshift {P : Program} {f : FuncId} {args : Array Value} {w : World} {v : Value} (h : ∀ n, Calls P f args (w.drewN n) (RetD v (w.drewN n))) (a n : Nat) :
    Calls P f args (w.drewN (a + n)) fun e w'' => e = .returned v ∧ ∃ m, w'' = w.drewN (a + m) :=
  (h (a + n)).mono fun e w'' ⟨he, m, hm⟩ => ⟨he, n + m, by rw [hm, World.drewN_drewN, Nat.add_assoc]⟩

/-- What the interface's methods are. -/
theorem m_next (cl : CL) (w : World) : (method 270 cl.ty (.pointer (some ⟨cl.l, 0, none⟩)) "loop.example/pub-patriciatries/pub/patricia.next").run Try.prog w = .ok (cl.fn 116 148, .pointer (some ⟨cl.l, 0, none⟩)) w := by
  cases cl <;> kernel_rfl
theorem m_length (cl : CL) (w : World) : (method 270 cl.ty (.pointer (some ⟨cl.l, 0, none⟩)) "loop.example/pub-patriciatries/pub/patricia.length").run Try.prog w = .ok (cl.fn 115 147, .pointer (some ⟨cl.l, 0, none⟩)) w := by
  cases cl <;> kernel_rfl
theorem m_head (cl : CL) (w : World) : (method 270 cl.ty (.pointer (some ⟨cl.l, 0, none⟩)) "loop.example/pub-patriciatries/pub/patricia.head").run Try.prog w = .ok (cl.fn 114 146, .pointer (some ⟨cl.l, 0, none⟩)) w := by
  cases cl <;> kernel_rfl
theorem m_add (cl : CL) (w : World) : (method 270 cl.ty (.pointer (some ⟨cl.l, 0, none⟩)) "loop.example/pub-patriciatries/pub/patricia.add").run Try.prog w = .ok (cl.fn 112 144, .pointer (some ⟨cl.l, 0, none⟩)) w := by
  cases cl <;> kernel_rfl
theorem m_remove (cl : CL) (w : World) : (method 270 cl.ty (.pointer (some ⟨cl.l, 0, none⟩)) "loop.example/pub-patriciatries/pub/patricia.remove").run Try.prog w = .ok (cl.fn 117 149, .pointer (some ⟨cl.l, 0, none⟩)) w := by
  cases cl <;> kernel_rfl
theorem m_replace (cl : CL) (w : World) : (method 270 cl.ty (.pointer (some ⟨cl.l, 0, none⟩)) "loop.example/pub-patriciatries/pub/patricia.replace").run Try.prog w = .ok (cl.fn 118 150, .pointer (some ⟨cl.l, 0, none⟩)) w := by
  cases cl <;> kernel_rfl
theorem m_walk (cl : CL) (w : World) : (method 270 cl.ty (.pointer (some ⟨cl.l, 0, none⟩)) "loop.example/pub-patriciatries/pub/patricia.walk").run Try.prog w = .ok (cl.fn 120 152, .pointer (some ⟨cl.l, 0, none⟩)) w := by
  cases cl <;> kernel_rfl
theorem f_next (cl : CL) (args : Array Value) (w : World) : (callFunc (cl.fn 116 148) args).run Try.prog w = .ok (.enter (cl.fn 116 148) args) w := by
  cases cl <;> kernel_rfl
theorem f_length (cl : CL) (args : Array Value) (w : World) : (callFunc (cl.fn 115 147) args).run Try.prog w = .ok (.enter (cl.fn 115 147) args) w := by
  cases cl <;> kernel_rfl
theorem f_head (cl : CL) (args : Array Value) (w : World) : (callFunc (cl.fn 114 146) args).run Try.prog w = .ok (.enter (cl.fn 114 146) args) w := by
  cases cl <;> kernel_rfl
theorem f_add (cl : CL) (args : Array Value) (w : World) : (callFunc (cl.fn 112 144) args).run Try.prog w = .ok (.enter (cl.fn 112 144) args) w := by
  cases cl <;> kernel_rfl
theorem f_remove (cl : CL) (args : Array Value) (w : World) : (callFunc (cl.fn 117 149) args).run Try.prog w = .ok (.enter (cl.fn 117 149) args) w := by
  cases cl <;> kernel_rfl
theorem f_replace (cl : CL) (args : Array Value) (w : World) : (callFunc (cl.fn 118 150) args).run Try.prog w = .ok (.enter (cl.fn 118 150) args) w := by
  cases cl <;> kernel_rfl
theorem f_walk (cl : CL) (args : Array Value) (w : World) : (callFunc (cl.fn 120 152) args).run Try.prog w = .ok (.enter (cl.fn 120 152) args) w := by
  cases cl <;> kernel_rfl

end Go.Proofs.Ytmdbnjepajifpaa

/- The search for a key, apart from memory: what is known at each node on the way, and at each way out. -/
namespace Go.Proofs.Ytmdbnjepajifpaa
open Go.RowKit

/-- The search for K has come to node q, with k left. -/
structure Srch (root : Nat) (N : Nat → Prop) (nd : Nat → Nd) (wd : Nat → List UInt8) (K : List UInt8) (q : Nat) (k : List UInt8) : Prop where
  mem : N q
  cut : ∃ u, wd q = u ++ (nd q).px ∧ K = u ++ k
  all : ∀ r, N r → K <+: wd r → wd q <+: wd r
  hd : q = root ∨ k.head? = some (nd q).fb

section
variable {root : Nat} {N : Nat → Prop} {nd : Nat → Nd} {wd : Nat → List UInt8} {S : Nat → List UInt8} {sh : Nat → Nat} {K k : List UInt8} {q : Nat}

theorem Srch.start (I : Inv root N nd wd S sh) (K : List UInt8) : Srch root N nd wd K root K :=
  ⟨I.root_mem, ⟨[], by simp [I.root_wd], rfl⟩, fun _ hr _ => I.root_le hr, .inl rfl⟩

theorem Srch.len (h : Srch root N nd wd K q k) : k.length ≤ K.length := by
  obtain ⟨u, _, h2⟩ := h.cut
  rw [h2]; simp

/-- The whole part of the key matches: the word is the key's beginning. -/
theorem Srch.full (h : Srch root N nd wd K q k) (hc : lcp (nd q).px k = (nd q).px.length) : K = wd q ++ k.drop (lcp (nd q).px k) := by
  obtain ⟨u, h1, h2⟩ := h.cut
  have h3 := lcp_take (nd q).px k
  rw [hc, List.take_length] at h3
  rw [h1, h2, hc, List.append_assoc]
  congr 1
  conv => lhs; rw [← List.take_append_drop (nd q).px.length k]
  rw [← h3]

/-- Nothing is left: the key begins the node's word. -/
theorem Srch.none_left (h : Srch root N nd wd K q k) (hk : k.drop (lcp (nd q).px k) = []) : wd q = K ++ (nd q).px.drop (lcp (nd q).px k) := by
  obtain ⟨u, h1, h2⟩ := h.cut
  have h3 := lcp_take (nd q).px k
  have h4 : k.take (lcp (nd q).px k) = k := List.take_of_length_le (by simpa using hk)
  rw [h4] at h3
  rw [h1, h2, List.append_assoc]
  congr 1
  conv => lhs; rw [← List.take_append_drop (lcp (nd q).px k) (nd q).px]
  rw [h3]

/-- The two part: no word begins with the key. -/
theorem Srch.part (h : Srch root N nd wd K q k) (hc : lcp (nd q).px k < (nd q).px.length) (hk : k.drop (lcp (nd q).px k) ≠ []) : ∀ r, N r → ¬ K <+: wd r := by
  intro r hr hK
  obtain ⟨u, h1, h2⟩ := h.cut
  have hq := h.all r hr hK
  have hlt : lcp (nd q).px k < k.length := by
    rcases Nat.lt_or_ge (lcp (nd q).px k) k.length with h' | h'
    · exact h'
    · exact absurd (List.drop_eq_nil_of_le h') hk
  have hs := lcp_stop (nd q).px k hc hlt
  apply hs
  obtain ⟨t1, ht1⟩ := hK
  obtain ⟨t2, ht2⟩ := hq
  have : (u ++ k ++ t1)[u.length + lcp (nd q).px k]? = (u ++ (nd q).px ++ t2)[u.length + lcp (nd q).px k]? := by
    rw [← h2, ht1, ← h1, ht2]
  rw [List.append_assoc, List.append_assoc, List.getElem?_append_right (Nat.le_add_right _ _), List.getElem?_append_right (Nat.le_add_right _ _), Nat.add_sub_cancel_left,
    List.getElem?_append_left hlt, List.getElem?_append_left hc] at this
  exact this.symm

theorem find_none {l : List Nat} {fb : Nat → UInt8} {b : UInt8} (h : l.find? (fun c => fb c == b) = none) : ∀ c, c ∈ l → fb c ≠ b := by
  intro c hc he
  rw [List.find?_eq_none] at h
  exact h c hc (by simp [he])

theorem find_some {l : List Nat} {fb : Nat → UInt8} {b : UInt8} {c : Nat} (h : l.find? (fun c => fb c == b) = some c) : c ∈ l ∧ fb c = b :=
  ⟨List.mem_of_find?_eq_some h, by simpa using List.find?_some h⟩

/-- The next byte of the key, where the node's part has matched. -/
theorem Srch.next_byte (h : Srch root N nd wd K q k) (hc : lcp (nd q).px k = (nd q).px.length) {b : UInt8} (hb : (k.drop (lcp (nd q).px k)).head? = some b) : K[(wd q).length]? = some b := by
  have h1 := h.full hc
  rw [h1]
  rw [List.getElem?_append_right (Nat.le_refl _), Nat.sub_self]
  rw [← List.head?_eq_getElem?]
  exact hb

/-- No child goes on: no word begins with the key. -/
theorem Srch.no_child (I : Inv root N nd wd S sh) (h : Srch root N nd wd K q k) (hc : lcp (nd q).px k = (nd q).px.length) {b : UInt8} (hb : (k.drop (lcp (nd q).px k)).head? = some b)
    (hn : ∀ c, c ∈ (nd q).cl.kids → (nd c).fb ≠ b) : ∀ r, N r → ¬ K <+: wd r := by
  intro r hr hK
  have h1 := h.full hc
  have hq := h.all r hr hK
  have hbyte := h.next_byte hc hb
  rcases I.desc h.mem hr hq with rfl | ⟨c, hcm, hcr⟩
  · have := hK.length_le
    rw [h1, List.length_append] at this
    have hz : (k.drop (lcp (nd r).px k)).length = 0 := by omega
    rw [List.length_eq_zero_iff.1 hz] at hb
    simp at hb
  · have h2 := I.byte_at h.mem hcm hcr
    obtain ⟨t, ht⟩ := hK
    have h3 : (wd r)[(wd q).length]? = some b := by
      rw [← ht, List.getElem?_append_left, hbyte]
      have := (List.getElem?_eq_some_iff.1 hbyte).1
      exact this
    rw [h2] at h3
    exact hn c hcm (by simpa using h3)

/-- A child goes on: the search comes to it. -/
theorem Srch.step (I : Inv root N nd wd S sh) (h : Srch root N nd wd K q k) (hc : lcp (nd q).px k = (nd q).px.length) {b : UInt8} (hb : (k.drop (lcp (nd q).px k)).head? = some b)
    {c : Nat} (hcm : c ∈ (nd q).cl.kids) (hcb : (nd c).fb = b) : Srch root N nd wd K c (k.drop (lcp (nd q).px k)) := by
  have h1 := h.full hc
  obtain ⟨hN, hne, hw, hpx⟩ := I.kid q h.mem c hcm
  have hbyte := h.next_byte hc hb
  refine ⟨hN, ⟨wd q, hw, h1⟩, fun r hr hK => ?_, .inr (by rw [hb, hcb])⟩
  have hq := h.all r hr hK
  rcases I.desc h.mem hr hq with rfl | ⟨d, hdm, hdr⟩
  · exfalso
    have := hK.length_le
    rw [h1, List.length_append] at this
    have hz : (k.drop (lcp (nd r).px k)).length = 0 := by omega
    rw [List.length_eq_zero_iff.1 hz] at hb
    simp at hb
  · have h2 := I.byte_at h.mem hdm hdr
    obtain ⟨t, ht⟩ := hK
    have h3 : (wd r)[(wd q).length]? = some b := by
      rw [← ht, List.getElem?_append_left, hbyte]
      exact (List.getElem?_eq_some_iff.1 hbyte).1
    rw [h2] at h3
    have : c = d := I.ne q h.mem c d hcm hdm (by rw [hcb]; simpa using h3.symm)
    rw [this]; exact hdr

end

end Go.Proofs.Ytmdbnjepajifpaa

/- findSubtree comes to the node beneath which all words begin with the key, if there is one. -/
namespace Go.Proofs.Ytmdbnjepajifpaa
open Go.RowKit

/-- A trie's nodes in memory, of a shape. -/
structure TR (w : World) (root : Nat) (N : Nat → Prop) (nd : Nat → Nd) (wd : Nat → List UInt8) (S : Nat → List UInt8) (sh : Nat → Nat) : Prop where
  I : Inv root N nd wd S sh
  H : ∀ p, N p → HN w p (nd p)
  rn : (nd root).np = false

section
variable {root : Nat} {N : Nat → Prop} {nd : Nat → Nd} {wd : Nat → List UInt8} {S : Nat → List UInt8} {sh : Nat → Nat} {w : World}
theorem TR.np (T : TR w root N nd wd S sh) {p : Nat} (hp : N p) : (nd p).np = false := by
  by_cases h : p = root
  · rw [h]; exact T.rn
  · exact T.I.np p hp h
theorem TR.pxl (T : TR w root N nd wd S sh) {p : Nat} (hp : N p) : (nd p).px.length ≤ 10 := by
  have h1 := T.I.len p hp
  by_cases h : p = root
  · rw [h, ← T.I.root_wd, ← h]; exact h1
  · obtain ⟨q, hq, hc⟩ := T.I.par p hp h
    have := (T.I.kid q hq p hc).2.2.1
    rw [this, List.length_append] at h1
    omega
end

/-- The parent that a search hands back. -/
def ParOf (root : Nat) (N : Nat → Prop) (nd : Nat → Nd) (P : Option Nat) (q : Nat) : Prop :=
  (P = none ∧ q = root) ∨ ∃ p, P = some p ∧ N p ∧ q ∈ (nd p).cl.kids

/-- What findSubtree returns. -/
def Found (root : Nat) (N : Nat → Prop) (nd : Nat → Nd) (wd : Nat → List UInt8) (K : List UInt8) (w : World) (e : Ending) (w' : World) : Prop :=
  ∃ (P : Option Nat) (q : Nat) (f : Bool) (lo : Value), e = .returned (.tuple #[optr P, ptr q, .bool f, lo]) ∧ (∃ n, w' = w.drewN n) ∧
    (f = false → ∀ r, N r → ¬ K <+: wd r) ∧
    (f = true → N q ∧ ParOf root N nd P q ∧ (∀ r, N r → K <+: wd r → wd q <+: wd r) ∧
      ∃ (b o m : Nat) (l : List UInt8), lo = .slice (some ⟨b, o, none⟩) l.length m ∧ wd q = K ++ l ∧ KS w b o l ∧ l.length ≤ 10)

section
variable {root : Nat} {N : Nat → Prop} {nd : Nat → Nd} {wd : Nat → List UInt8} {S : Nat → List UInt8} {sh : Nat → Nat} {w : World} {K k : List UInt8} {q kb o : Nat} {P : Option Nat}
theorem found_no {lo : Value} (n : Nat) (h : ∀ r, N r → ¬ K <+: wd r) : Found root N nd wd K w (.returned (.tuple #[optr P, ptr q, .bool false, lo])) (w.drewN n) :=
  ⟨P, q, false, lo, rfl, ⟨n, rfl⟩, fun _ => h, fun h => by cases h⟩

theorem found_yes (T : Hid (TR w root N nd wd S sh)) (HS : Hid (Srch root N nd wd K q k ∧ KS w kb o k ∧ ParOf root N nd P q)) (hc : Hid (lcp (nd q).px k = k.length)) (n : Nat) (o' m' : Nat)
    (ho : k.length < (nd q).px.length → o' = (nd q).so + k.length) :
    Found root N nd wd K w (.returned (.tuple #[optr P, ptr q, .bool true, .slice (some ⟨(nd q).sb, o', none⟩) ((nd q).px.length - k.length) m'])) (w.drewN n) := by
  obtain ⟨h1, _, h3⟩ := HS.out
  have hN := h1.mem
  refine ⟨P, q, true, _, rfl, ⟨n, rfl⟩, fun h => (by cases h), fun _ => ⟨hN, h3, h1.all, (nd q).sb, o', m', (nd q).px.drop k.length, by rw [List.length_drop], ?_, ?_, ?_⟩⟩
  · have := h1.none_left (by rw [hc.out]; simp)
    rw [hc.out] at this
    exact this
  · by_cases hl : k.length < (nd q).px.length
    · rw [ho hl]
      exact ((T.out.H q hN).ks (T.out.np hN)).drop _
    · rw [List.drop_eq_nil_of_le (by omega)]
      intro i hi
      simp at hi
  · have := T.out.pxl hN
    rw [List.length_drop]
    omega
end

def slen : Value → Nat | .slice _ n _ => n | _ => 0
def atRoot (t : Nat) : Value → Nat | .pointer (some a) => if a.block = t then 1 else 0 | _ => 0

theorem Inv.px_pos {root : Nat} {N : Nat → Prop} {nd : Nat → Nd} {wd : Nat → List UInt8} {S : Nat → List UInt8} {sh : Nat → Nat} (I : Inv root N nd wd S sh) {p : Nat} (hp : N p) (h : p ≠ root) : 0 < (nd p).px.length := by
  obtain ⟨q, hq, hc⟩ := I.par p hp h
  exact List.length_pos_iff.2 (I.kid q hq p hc).2.2.2

theorem atRoot_self (t : Nat) : atRoot t (ptr t) = 1 := by simp [atRoot]
theorem atRoot_other {t x : Nat} (h : x ≠ t) : atRoot t (ptr x) = 0 := by simp [atRoot, h]

/-- Each step lowers what is left of the key, or leaves the root. -/
theorem step_less {root : Nat} {N : Nat → Prop} {nd : Nat → Nd} {wd : Nat → List UInt8} {S : Nat → List UInt8} {sh : Nat → Nat} (I : Inv root N nd wd S sh) {q x c n : Nat} (hq : N q) (hx : x ≠ root)
    (hc : c = (nd q).px.length) (hn : c < n) : 2 * (n - c) + atRoot root (ptr x) < 2 * n + atRoot root (ptr q) := by
  rw [atRoot_other hx]
  by_cases h : q = root
  · subst h; rw [atRoot_self]; omega
  · have := I.px_pos hq h
    omega

set_option maxHeartbeats 3200000 in
theorem find_any {root : Nat} {N : Nat → Prop} {nd : Nat → Nd} {wd : Nat → List UInt8} {S : Nat → List UInt8} {sh : Nat → Nat} (w : World) (T : TR w root N nd wd S sh)
    (kb ko kc : Nat) (K : List UInt8) (hk : KS w kb ko K) (hkc : K.length ≤ kc) (hkl : K.length ≤ 10) :
    Calls Try.prog 65 #[ptr root, .slice (some ⟨kb, ko, none⟩) K.length kc] w (Found root N nd wd K w) := by
  have HK := Lib.hid hk
  have HT := Lib.hid T
  clear hk T
  go_enter Try.func65, Try.ntmps65
  go_wp2_with fail
  go_loopw [1, 4, 5, 6, 7] (fun key par rt f lo wr => ∃ (k : List UInt8) (o m q n : Nat) (P : Option Nat), key = .slice (some ⟨kb, o, none⟩) k.length m ∧ par = optr P ∧ rt = ptr q ∧ f = .bool false ∧ lo = .slice none 0 0 ∧ wr = w.drewN n ∧ k.length ≤ m ∧ k.length ≤ 10 ∧
      Hid (Srch root N nd wd K q k ∧ KS w kb o k ∧ ParOf root N nd P q))
    (fun key _ rt _ _ _ => 2 * slen key + atRoot root rt)
  case atStart => exact ⟨K, ko, kc, root, 0, none, rfl, rfl, rfl, rfl, rfl, rfl, hkc, hkl, (⟨Srch.start HT.out.I K, HK.out, .inl ⟨rfl, rfl⟩⟩ : _ ∧ _ ∧ _)⟩
  case round =>
    obtain ⟨k, o, m, q, n, P, rfl, rfl, rfl, rfl, rfl, rfl, hkm, hk10, HS⟩ := hrel
    have hN := HS.out.1.mem
    have hn := HT.out.H q hN
    have hnp := HT.out.np hN
    have hpx := HT.out.pxl hN
    obtain ⟨c, hc⟩ : ∃ c, lcp (nd q).px k = c := ⟨_, rfl⟩
    have hcl := lcp_le_left (nd q).px k
    have hcr := lcp_le_right (nd q).px k
    have hl := lcp_q w q kb o m (nd q) k hn hnp HS.out.2.1 (by omega) (by omega) n
    rw [hc] at hcl hcr hl
    have HL := Lib.hid hl
    have HC := Lib.hid hc
    have c0 := hn.sl hnp
    have c4 := hn.c4
    unfold CL.val at c4
    have Hn := Lib.hid hn
    clear hl hc hn hnp hN
    have m1 := m_next (nd q).cl
    have m2 := f_next (nd q).cl
    by_cases h1 : c = k.length
    · subst h1
      have hsc := Hn.out.le
      by_cases h2 : m = k.length
      · subst h2
        go_wp2_with (go_at_call 70; refine HL.out.mono ?_; rintro e w' ⟨rfl, n1, rfl⟩)
        all_goals
          refine bodyPost_ret (results_tmp4 rfl _ _ _) rfl ?_
          exact found_yes HT HS HC _ _ _ (by intro _; omega)
      · go_wp2_with (go_at_call 70; refine HL.out.mono ?_; rintro e w' ⟨rfl, n1, rfl⟩)
        all_goals
          refine bodyPost_ret (results_tmp4 rfl _ _ _) rfl ?_
          exact found_yes HT HS HC _ _ _ (by intro _; omega)
    · have hck : c < k.length := by omega
      have hkc0 : ¬ m = c := by omega
      obtain ⟨b, hb⟩ : ∃ b, (k.drop c).head? = some b := by
        cases hd : k.drop c with
        | nil => have := congrArg List.length hd; rw [List.length_drop] at this; simp at this; omega
        | cons b l => exact ⟨b, rfl⟩
      have hne : ((k.length - c : Nat) : Int) ≠ 0 := by omega
      have hnz : (((k.length - c : Nat) : Int) == 0) = false := by rw [beq_eq_false_iff_ne]; exact hne
      have hb0 := (HS.out.2.1.drop c).head hb
      have hpos : 0 < k.length - c := by omega
      by_cases h2 : c < (nd q).px.length
      · have g2 : (c : Int) < ((nd q).px.length : Int) := by omega
        have hsc := Hn.out.le
        have hscc : ¬ (nd q).sc = c := by omega
        have hno := HS.out.1.part (by rw [HC.out]; exact h2) (by rw [HC.out]; intro h; rw [h] at hb; simp at hb)
        have HNO := Lib.hid hno
        clear hno hb hb0 hne
        go_wp2_with (go_at_call 70; refine HL.out.mono ?_; rintro e w' ⟨rfl, n1, rfl⟩)
        all_goals
          refine bodyPost_ret (results_tmp4 rfl _ _ _) rfl ?_
          exact found_no _ HNO.out
      · have hcp : c = (nd q).px.length := by omega
        have HCP := Lib.hid hcp
        clear hcp
        have g2 : ¬ (c : Int) < ((nd q).px.length : Int) := by omega
        have HB := Lib.hid hb
        clear hb hne
        have hfull : lcp (nd q).px k = (nd q).px.length := by rw [HC.out, HCP.out]
        have HFU := Lib.hid hfull
        clear hfull
        obtain ⟨x, hx⟩ : ∃ x, (nd q).cl.child (fun c => (nd c).fb) b = x := ⟨_, rfl⟩
        have hnx := next_q w (fun c => (nd c).fb) (nd q).cl b Hn.out.raw (HT.out.I.kb HT.out.H HS.out.1.mem)
        rw [hx] at hnx
        have HX := Lib.hid hx
        have HNX := Lib.hid hnx
        clear hx hnx
        cases x with
        | none =>
          have hno := HS.out.1.no_child HT.out.I HFU.out (by rw [HC.out]; exact HB.out) (find_none HX.out)
          have HNO := Lib.hid hno
          clear hno
          go_wp2_with (go_at_call 70; refine HL.out.mono ?_; rintro e w' ⟨rfl, n1, rfl⟩)
          go_quiet (exact qshift HNX.out _ _)
          go_wp2_with fail
          all_goals
            refine bodyPost_ret (results_tmp4 rfl _ _ _) rfl ?_
            exact found_no _ HNO.out
        | some x =>
          have hxk := find_some HX.out
          have hst := HS.out.1.step HT.out.I HFU.out (by rw [HC.out]; exact HB.out) hxk.1 hxk.2
          rw [HC.out] at hst
          have hxr := (HT.out.I.kid q HS.out.1.mem x hxk.1).2.1
          have HST : Hid (Srch root N nd wd K x (k.drop c) ∧ KS w kb (o + c) (k.drop c) ∧ ParOf root N nd (some q) x) :=
            ⟨hst, HS.out.2.1.drop c, .inr ⟨q, rfl, HS.out.1.mem, hxk.1⟩⟩
          have HLT := Lib.hid (step_less HT.out.I HS.out.1.mem hxr HCP.out hck)
          clear hxk hst hxr
          go_wp2_with (go_at_call 70; refine HL.out.mono ?_; rintro e w' ⟨rfl, n1, rfl⟩)
          go_quiet (exact qshift HNX.out _ _)
          go_wp2_with fail
          go_roundw
          case rel => exact ⟨k.drop c, o + c, m - c, x, _, some q, by rw [List.length_drop], rfl, rfl, rfl, rfl, rfl, by rw [List.length_drop]; omega, by rw [List.length_drop]; omega, HST⟩
          case measure => exact HLT.out

end Go.Proofs.Ytmdbnjepajifpaa
