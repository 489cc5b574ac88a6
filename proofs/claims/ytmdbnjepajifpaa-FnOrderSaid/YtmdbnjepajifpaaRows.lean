/-
  No cell of these rows narrows 'for every input' (looked for: loops, veiled, ifaces, maps, wideKeys, modest, calm, conditions, laid).
  DERIVED. THE GIVEN ROWS OF THIS SEAT. 9 by the template 'for every input the law returns true; each argument reads behind the call as it read before'; 0 by the template 'total and deterministic' (their statements: YtmdbnjepajifpaaTotals.lean).
  GIVEN WITH THE SEED: the statements are not yours to turn. If you find one false, say at which input.
  Laid BY PROGRAM, IN A SANDBOX (cutbox-rows.mjs): the forced cells as the released guide's own fill.sh prints them over the translation 2ab18221018b2b3c… (all of the seat's roots in one cut). By AI agents, Wed Nov 11 2026. No macro, syntax, notation, axiom, sorry.
-/
import Derived.Test.YtmdbnjepajifpaaChecked
import GoSem.Claim
import GoSem.ClaimJoined
import GoSem.ClaimMapViews
import Derived.JoinedTies
import Derived.KernelRfl
namespace Go.Proofs.Ytmdbnjepajifpaa
/- THE CELL 'sum', in the pinned program and in every row, IS THE sha256 OF THE DUMP (.gsa) THAT YtmdbnjepajifpaaProg.lean LOADS. Nothing in Lean hashes anything: it is a label: what it is worth is what the hold of that sum in a sandbox is worth. -/
noncomputable def Try.pinned : Pinned := { name := "ytmdbnjepajifpaa", sum := "2ab18221018b2b3ce6f9b5f11ec40f2a1c7118f4d8d253607948fd64774cdd04", checked := Try.checked }
namespace Rows
def none {H : Type} : Left H := { results := [], args := [] }

/-- 'laws.FnExactLatest': WHATEVER THE INPUT: true; the input reads as it did. -/
def fnExactLatestSpec : ChangeSpec := { name := "fnExactLatest", fn := fun _ => fun
  | [d1, d2, d3, d4] => { results := [.lit (.bool true)], args := [d1, d2, d3, d4] }
  | _ => none }
def fnExactLatestRow : OpenClaim := { program := "ytmdbnjepajifpaa", sum := "2ab18221018b2b3ce6f9b5f11ec40f2a1c7118f4d8d253607948fd64774cdd04", func := "loop.example/pub-patriciatries/laws.FnExactLatest", spec := "fnExactLatest", unfollowed := true, recurses := true, apart := false }
def FnExactLatestSaid : Prop := fnExactLatestRow.holds Try.pinned (OpenSpec.ofChange fnExactLatestSpec)

/-- ITS FALSE NEIGHBOUR: 'it returns false'. Refute it at one input. -/
def fnExactLatestWrong : ChangeSpec := { name := "fnExactLatest", fn := fun _ => fun
  | [d1, d2, d3, d4] => { results := [.lit (.bool false)], args := [d1, d2, d3, d4] }
  | _ => none }
def FnExactLatestWrongFalsely : Prop := fnExactLatestRow.holds Try.pinned (OpenSpec.ofChange fnExactLatestWrong)

/-- 'laws.FnExactAdded': WHATEVER THE INPUT: true; the input reads as it did. -/
def fnExactAddedSpec : ChangeSpec := { name := "fnExactAdded", fn := fun _ => fun
  | [d1, d2, d3] => { results := [.lit (.bool true)], args := [d1, d2, d3] }
  | _ => none }
def fnExactAddedRow : OpenClaim := { program := "ytmdbnjepajifpaa", sum := "2ab18221018b2b3ce6f9b5f11ec40f2a1c7118f4d8d253607948fd64774cdd04", func := "loop.example/pub-patriciatries/laws.FnExactAdded", spec := "fnExactAdded", unfollowed := true, recurses := true, apart := false }
def FnExactAddedSaid : Prop := fnExactAddedRow.holds Try.pinned (OpenSpec.ofChange fnExactAddedSpec)

/-- ITS FALSE NEIGHBOUR: 'it returns false'. Refute it at one input. -/
def fnExactAddedWrong : ChangeSpec := { name := "fnExactAdded", fn := fun _ => fun
  | [d1, d2, d3] => { results := [.lit (.bool false)], args := [d1, d2, d3] }
  | _ => none }
def FnExactAddedWrongFalsely : Prop := fnExactAddedRow.holds Try.pinned (OpenSpec.ofChange fnExactAddedWrong)

/-- 'laws.FnExactGone': WHATEVER THE INPUT: true; the input reads as it did. -/
def fnExactGoneSpec : ChangeSpec := { name := "fnExactGone", fn := fun _ => fun
  | [d1, d2, d3, d4] => { results := [.lit (.bool true)], args := [d1, d2, d3, d4] }
  | _ => none }
def fnExactGoneRow : OpenClaim := { program := "ytmdbnjepajifpaa", sum := "2ab18221018b2b3ce6f9b5f11ec40f2a1c7118f4d8d253607948fd64774cdd04", func := "loop.example/pub-patriciatries/laws.FnExactGone", spec := "fnExactGone", unfollowed := true, recurses := true, apart := false }
def FnExactGoneSaid : Prop := fnExactGoneRow.holds Try.pinned (OpenSpec.ofChange fnExactGoneSpec)

/-- ITS FALSE NEIGHBOUR: 'it returns false'. Refute it at one input. -/
def fnExactGoneWrong : ChangeSpec := { name := "fnExactGone", fn := fun _ => fun
  | [d1, d2, d3, d4] => { results := [.lit (.bool false)], args := [d1, d2, d3, d4] }
  | _ => none }
def FnExactGoneWrongFalsely : Prop := fnExactGoneRow.holds Try.pinned (OpenSpec.ofChange fnExactGoneWrong)

/-- 'laws.FnExactAt': WHATEVER THE INPUT: true; the input reads as it did. -/
def fnExactAtSpec : ChangeSpec := { name := "fnExactAt", fn := fun _ => fun
  | [d1, d2, d3, d4, d5] => { results := [.lit (.bool true)], args := [d1, d2, d3, d4, d5] }
  | _ => none }
def fnExactAtRow : OpenClaim := { program := "ytmdbnjepajifpaa", sum := "2ab18221018b2b3ce6f9b5f11ec40f2a1c7118f4d8d253607948fd64774cdd04", func := "loop.example/pub-patriciatries/laws.FnExactAt", spec := "fnExactAt", unfollowed := true, recurses := true, apart := false }
def FnExactAtSaid : Prop := fnExactAtRow.holds Try.pinned (OpenSpec.ofChange fnExactAtSpec)

/-- ITS FALSE NEIGHBOUR: 'it returns false'. Refute it at one input. -/
def fnExactAtWrong : ChangeSpec := { name := "fnExactAt", fn := fun _ => fun
  | [d1, d2, d3, d4, d5] => { results := [.lit (.bool false)], args := [d1, d2, d3, d4, d5] }
  | _ => none }
def FnExactAtWrongFalsely : Prop := fnExactAtRow.holds Try.pinned (OpenSpec.ofChange fnExactAtWrong)

/-- 'laws.FnExactHas': WHATEVER THE INPUT: true; the input reads as it did. -/
def fnExactHasSpec : ChangeSpec := { name := "fnExactHas", fn := fun _ => fun
  | [d1, d2, d3, d4] => { results := [.lit (.bool true)], args := [d1, d2, d3, d4] }
  | _ => none }
def fnExactHasRow : OpenClaim := { program := "ytmdbnjepajifpaa", sum := "2ab18221018b2b3ce6f9b5f11ec40f2a1c7118f4d8d253607948fd64774cdd04", func := "loop.example/pub-patriciatries/laws.FnExactHas", spec := "fnExactHas", unfollowed := true, recurses := true, apart := false }
def FnExactHasSaid : Prop := fnExactHasRow.holds Try.pinned (OpenSpec.ofChange fnExactHasSpec)

/-- ITS FALSE NEIGHBOUR: 'it returns false'. Refute it at one input. -/
def fnExactHasWrong : ChangeSpec := { name := "fnExactHas", fn := fun _ => fun
  | [d1, d2, d3, d4] => { results := [.lit (.bool false)], args := [d1, d2, d3, d4] }
  | _ => none }
def FnExactHasWrongFalsely : Prop := fnExactHasRow.holds Try.pinned (OpenSpec.ofChange fnExactHasWrong)

/-- 'laws.FnExactOver': WHATEVER THE INPUT: true; the input reads as it did. -/
def fnExactOverSpec : ChangeSpec := { name := "fnExactOver", fn := fun _ => fun
  | [d1, d2, d3, d4] => { results := [.lit (.bool true)], args := [d1, d2, d3, d4] }
  | _ => none }
def fnExactOverRow : OpenClaim := { program := "ytmdbnjepajifpaa", sum := "2ab18221018b2b3ce6f9b5f11ec40f2a1c7118f4d8d253607948fd64774cdd04", func := "loop.example/pub-patriciatries/laws.FnExactOver", spec := "fnExactOver", unfollowed := true, recurses := true, apart := false }
def FnExactOverSaid : Prop := fnExactOverRow.holds Try.pinned (OpenSpec.ofChange fnExactOverSpec)

/-- ITS FALSE NEIGHBOUR: 'it returns false'. Refute it at one input. -/
def fnExactOverWrong : ChangeSpec := { name := "fnExactOver", fn := fun _ => fun
  | [d1, d2, d3, d4] => { results := [.lit (.bool false)], args := [d1, d2, d3, d4] }
  | _ => none }
def FnExactOverWrongFalsely : Prop := fnExactOverRow.holds Try.pinned (OpenSpec.ofChange fnExactOverWrong)

/-- 'laws.FnOrder': WHATEVER THE INPUT: true; the input reads as it did. -/
def fnOrderSpec : ChangeSpec := { name := "fnOrder", fn := fun _ => fun
  | [d1, d2, d3, d4] => { results := [.lit (.bool true)], args := [d1, d2, d3, d4] }
  | _ => none }
def fnOrderRow : OpenClaim := { program := "ytmdbnjepajifpaa", sum := "2ab18221018b2b3ce6f9b5f11ec40f2a1c7118f4d8d253607948fd64774cdd04", func := "loop.example/pub-patriciatries/laws.FnOrder", spec := "fnOrder", unfollowed := true, recurses := true, apart := false }
def FnOrderSaid : Prop := fnOrderRow.holds Try.pinned (OpenSpec.ofChange fnOrderSpec)

/-- ITS FALSE NEIGHBOUR: 'it returns false'. Refute it at one input. -/
def fnOrderWrong : ChangeSpec := { name := "fnOrder", fn := fun _ => fun
  | [d1, d2, d3, d4] => { results := [.lit (.bool false)], args := [d1, d2, d3, d4] }
  | _ => none }
def FnOrderWrongFalsely : Prop := fnOrderRow.holds Try.pinned (OpenSpec.ofChange fnOrderWrong)

/-- 'laws.FnExactPast': WHATEVER THE INPUT: true; the input reads as it did. -/
def fnExactPastSpec : ChangeSpec := { name := "fnExactPast", fn := fun _ => fun
  | [d1, d2, d3, d4] => { results := [.lit (.bool true)], args := [d1, d2, d3, d4] }
  | _ => none }
def fnExactPastRow : OpenClaim := { program := "ytmdbnjepajifpaa", sum := "2ab18221018b2b3ce6f9b5f11ec40f2a1c7118f4d8d253607948fd64774cdd04", func := "loop.example/pub-patriciatries/laws.FnExactPast", spec := "fnExactPast", unfollowed := true, recurses := true, apart := false }
def FnExactPastSaid : Prop := fnExactPastRow.holds Try.pinned (OpenSpec.ofChange fnExactPastSpec)

/-- ITS FALSE NEIGHBOUR: 'it returns false'. Refute it at one input. -/
def fnExactPastWrong : ChangeSpec := { name := "fnExactPast", fn := fun _ => fun
  | [d1, d2, d3, d4] => { results := [.lit (.bool false)], args := [d1, d2, d3, d4] }
  | _ => none }
def FnExactPastWrongFalsely : Prop := fnExactPastRow.holds Try.pinned (OpenSpec.ofChange fnExactPastWrong)

/-- 'laws.FnExactUnder': WHATEVER THE INPUT: true; the input reads as it did. -/
def fnExactUnderSpec : ChangeSpec := { name := "fnExactUnder", fn := fun _ => fun
  | [d1, d2, d3, d4] => { results := [.lit (.bool true)], args := [d1, d2, d3, d4] }
  | _ => none }
def fnExactUnderRow : OpenClaim := { program := "ytmdbnjepajifpaa", sum := "2ab18221018b2b3ce6f9b5f11ec40f2a1c7118f4d8d253607948fd64774cdd04", func := "loop.example/pub-patriciatries/laws.FnExactUnder", spec := "fnExactUnder", unfollowed := true, recurses := true, apart := false }
def FnExactUnderSaid : Prop := fnExactUnderRow.holds Try.pinned (OpenSpec.ofChange fnExactUnderSpec)

/-- ITS FALSE NEIGHBOUR: 'it returns false'. Refute it at one input. -/
def fnExactUnderWrong : ChangeSpec := { name := "fnExactUnder", fn := fun _ => fun
  | [d1, d2, d3, d4] => { results := [.lit (.bool false)], args := [d1, d2, d3, d4] }
  | _ => none }
def FnExactUnderWrongFalsely : Prop := fnExactUnderRow.holds Try.pinned (OpenSpec.ofChange fnExactUnderWrong)

/- THE SECOND FORM. 'bulk': how many values and letters a reading holds, each counted each time it is reached (what is shared counts as often as it is met; a slice's spare places count too). A statement '..UptoSaid' is the law's where the arguments, and the package variables that the reading takes, are together of bulk at most 1048576: NARROWER than '..Said'. Prove '..Said' where nothing that the law and all that it calls make is longer than what came in: it says more and counts as full. Else prove '..UptoSaid'. A law counts once. -/
mutual
def uptoBulk {H : Type} : DataW H → Nat
  | .lit (.string bytes) => bytes.length + 1
  | .lit _ => 1
  | .nil => 1
  | .ptr d => uptoBulk d + 1
  | .slice elems spare => uptoBulkAll elems + uptoBulkAll spare + 1
  | .agg parts => uptoBulkAll parts + 1
  | .iface _ d => uptoBulk d + 1
  | .map entries => uptoBulkEntries entries + 1
  | .held _ => 1
def uptoBulkAll {H : Type} : List (DataW H) → Nat
  | [] => 0
  | d :: r => uptoBulk d + uptoBulkAll r
def uptoBulkEntries {H : Type} : List (Lit × DataW H) → Nat
  | [] => 0
  | x :: r => uptoBulkEntry x + uptoBulkEntries r
def uptoBulkEntry {H : Type} : Lit × DataW H → Nat
  | (.string bytes, d) => bytes.length + uptoBulk d + 1
  | (_, d) => uptoBulk d + 1
 end
def uptoSmall : (H : Type) → List (DataW H) → Bool := fun _ ds => decide (uptoBulkAll ds ≤ 1048576)
def OpenSpec.upto (s : _root_.Go.ChangeSpec) : _root_.Go.OpenSpec := { _root_.Go.OpenSpec.ofChange s with cond := some uptoSmall }

/-- 'laws.FnExactLatest', WHERE WHAT IT READS IS OF BULK AT MOST 1048576: true; the input reads as it did. -/
def fnExactLatestUptoRow : OpenClaim := { program := "ytmdbnjepajifpaa", sum := "2ab18221018b2b3ce6f9b5f11ec40f2a1c7118f4d8d253607948fd64774cdd04", func := "loop.example/pub-patriciatries/laws.FnExactLatest", spec := "fnExactLatest", unfollowed := true, recurses := true, apart := false, narrowed := true }
def FnExactLatestUptoSaid : Prop := fnExactLatestUptoRow.holds Try.pinned (OpenSpec.upto fnExactLatestSpec)

/-- 'laws.FnExactAdded', WHERE WHAT IT READS IS OF BULK AT MOST 1048576: true; the input reads as it did. -/
def fnExactAddedUptoRow : OpenClaim := { program := "ytmdbnjepajifpaa", sum := "2ab18221018b2b3ce6f9b5f11ec40f2a1c7118f4d8d253607948fd64774cdd04", func := "loop.example/pub-patriciatries/laws.FnExactAdded", spec := "fnExactAdded", unfollowed := true, recurses := true, apart := false, narrowed := true }
def FnExactAddedUptoSaid : Prop := fnExactAddedUptoRow.holds Try.pinned (OpenSpec.upto fnExactAddedSpec)

/-- 'laws.FnExactGone', WHERE WHAT IT READS IS OF BULK AT MOST 1048576: true; the input reads as it did. -/
def fnExactGoneUptoRow : OpenClaim := { program := "ytmdbnjepajifpaa", sum := "2ab18221018b2b3ce6f9b5f11ec40f2a1c7118f4d8d253607948fd64774cdd04", func := "loop.example/pub-patriciatries/laws.FnExactGone", spec := "fnExactGone", unfollowed := true, recurses := true, apart := false, narrowed := true }
def FnExactGoneUptoSaid : Prop := fnExactGoneUptoRow.holds Try.pinned (OpenSpec.upto fnExactGoneSpec)

/-- 'laws.FnExactAt', WHERE WHAT IT READS IS OF BULK AT MOST 1048576: true; the input reads as it did. -/
def fnExactAtUptoRow : OpenClaim := { program := "ytmdbnjepajifpaa", sum := "2ab18221018b2b3ce6f9b5f11ec40f2a1c7118f4d8d253607948fd64774cdd04", func := "loop.example/pub-patriciatries/laws.FnExactAt", spec := "fnExactAt", unfollowed := true, recurses := true, apart := false, narrowed := true }
def FnExactAtUptoSaid : Prop := fnExactAtUptoRow.holds Try.pinned (OpenSpec.upto fnExactAtSpec)

/-- 'laws.FnExactHas', WHERE WHAT IT READS IS OF BULK AT MOST 1048576: true; the input reads as it did. -/
def fnExactHasUptoRow : OpenClaim := { program := "ytmdbnjepajifpaa", sum := "2ab18221018b2b3ce6f9b5f11ec40f2a1c7118f4d8d253607948fd64774cdd04", func := "loop.example/pub-patriciatries/laws.FnExactHas", spec := "fnExactHas", unfollowed := true, recurses := true, apart := false, narrowed := true }
def FnExactHasUptoSaid : Prop := fnExactHasUptoRow.holds Try.pinned (OpenSpec.upto fnExactHasSpec)

/-- 'laws.FnExactOver', WHERE WHAT IT READS IS OF BULK AT MOST 1048576: true; the input reads as it did. -/
def fnExactOverUptoRow : OpenClaim := { program := "ytmdbnjepajifpaa", sum := "2ab18221018b2b3ce6f9b5f11ec40f2a1c7118f4d8d253607948fd64774cdd04", func := "loop.example/pub-patriciatries/laws.FnExactOver", spec := "fnExactOver", unfollowed := true, recurses := true, apart := false, narrowed := true }
def FnExactOverUptoSaid : Prop := fnExactOverUptoRow.holds Try.pinned (OpenSpec.upto fnExactOverSpec)

/-- 'laws.FnOrder', WHERE WHAT IT READS IS OF BULK AT MOST 1048576: true; the input reads as it did. -/
def fnOrderUptoRow : OpenClaim := { program := "ytmdbnjepajifpaa", sum := "2ab18221018b2b3ce6f9b5f11ec40f2a1c7118f4d8d253607948fd64774cdd04", func := "loop.example/pub-patriciatries/laws.FnOrder", spec := "fnOrder", unfollowed := true, recurses := true, apart := false, narrowed := true }
def FnOrderUptoSaid : Prop := fnOrderUptoRow.holds Try.pinned (OpenSpec.upto fnOrderSpec)

/-- 'laws.FnExactPast', WHERE WHAT IT READS IS OF BULK AT MOST 1048576: true; the input reads as it did. -/
def fnExactPastUptoRow : OpenClaim := { program := "ytmdbnjepajifpaa", sum := "2ab18221018b2b3ce6f9b5f11ec40f2a1c7118f4d8d253607948fd64774cdd04", func := "loop.example/pub-patriciatries/laws.FnExactPast", spec := "fnExactPast", unfollowed := true, recurses := true, apart := false, narrowed := true }
def FnExactPastUptoSaid : Prop := fnExactPastUptoRow.holds Try.pinned (OpenSpec.upto fnExactPastSpec)

/-- 'laws.FnExactUnder', WHERE WHAT IT READS IS OF BULK AT MOST 1048576: true; the input reads as it did. -/
def fnExactUnderUptoRow : OpenClaim := { program := "ytmdbnjepajifpaa", sum := "2ab18221018b2b3ce6f9b5f11ec40f2a1c7118f4d8d253607948fd64774cdd04", func := "loop.example/pub-patriciatries/laws.FnExactUnder", spec := "fnExactUnder", unfollowed := true, recurses := true, apart := false, narrowed := true }
def FnExactUnderUptoSaid : Prop := fnExactUnderUptoRow.holds Try.pinned (OpenSpec.upto fnExactUnderSpec)

end Rows
end Go.Proofs.Ytmdbnjepajifpaa
