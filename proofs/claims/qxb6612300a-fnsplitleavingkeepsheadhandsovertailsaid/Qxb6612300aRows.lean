/-
  No cell of these rows narrows 'for every input' (looked for: loops, veiled, ifaces, maps, wideKeys, modest, calm, conditions, laid).
  DERIVED. THE GIVEN ROWS OF THIS SEAT. 6 by the template 'for every input the law returns true; each argument reads behind the call as it read before'; 0 by the template 'total and deterministic' (their statements: Qxb6612300aTotals.lean).
  GIVEN WITH THE SEED: the statements are not yours to turn. If you find one false, say at which input.
  Laid BY PROGRAM, IN A SANDBOX (cutbox-rows.mjs): the forced cells as the released guide's own fill.sh prints them over the translation bd6c38d02d92c2cd… (all of the seat's roots in one cut). By AI agents, Wed Nov 11 2026. No macro, syntax, notation, axiom, sorry.
-/
import Derived.Test.Qxb6612300aChecked
import GoSem.Claim
import GoSem.ClaimJoined
import GoSem.ClaimMapViews
import Derived.JoinedTies
import Derived.KernelRfl
namespace Go.Proofs.Qxb6612300a
/- THE CELL 'sum', in the pinned program and in every row, IS THE sha256 OF THE DUMP (.gsa) THAT Qxb6612300aProg.lean LOADS. Nothing in Lean hashes anything: it is a label: what it is worth is what the hold of that sum in a sandbox is worth. -/
noncomputable def Try.pinned : Pinned := { name := "qxb6612300a", sum := "bd6c38d02d92c2cdba2ff67faf7a33d4c6411d3b339a44ac561b1ebe4ecce054", checked := Try.checked }
namespace Rows
def none {H : Type} : Left H := { results := [], args := [] }

/-- 'zzlaws_root_b1.FnFarthestLessIsNumericOrder': WHATEVER THE INPUT: true; the input reads as it did. -/
def fnFarthestLessIsNumericOrderSpec : ChangeSpec := { name := "fnFarthestLessIsNumericOrder", fn := fun _ => fun
  | [d1, d2, d3] => { results := [.lit (.bool true)], args := [d1, d2, d3] }
  | _ => none }
def fnFarthestLessIsNumericOrderRow : OpenClaim := { program := "qxb6612300a", sum := "bd6c38d02d92c2cdba2ff67faf7a33d4c6411d3b339a44ac561b1ebe4ecce054", func := "example.com/driftring/driftring/zzlaws_root_b1.FnFarthestLessIsNumericOrder", spec := "fnFarthestLessIsNumericOrder", inPlace := ["internal/bytealg.Compare"], plainKeys := false, apart := false }
def FnFarthestLessIsNumericOrderSaid : Prop := fnFarthestLessIsNumericOrderRow.holds Try.pinned (OpenSpec.ofChange fnFarthestLessIsNumericOrderSpec)

/-- ITS FALSE NEIGHBOUR: 'it returns false'. Refute it at one input. -/
def fnFarthestLessIsNumericOrderWrong : ChangeSpec := { name := "fnFarthestLessIsNumericOrder", fn := fun _ => fun
  | [d1, d2, d3] => { results := [.lit (.bool false)], args := [d1, d2, d3] }
  | _ => none }
def FnFarthestLessIsNumericOrderWrongFalsely : Prop := fnFarthestLessIsNumericOrderRow.holds Try.pinned (OpenSpec.ofChange fnFarthestLessIsNumericOrderWrong)

/-- 'zzlaws_root_b1.FnFarthestLessIsStrictTotalOrder': WHATEVER THE INPUT: true; the input reads as it did. -/
def fnFarthestLessIsStrictTotalOrderSpec : ChangeSpec := { name := "fnFarthestLessIsStrictTotalOrder", fn := fun _ => fun
  | [d1, d2, d3, d4] => { results := [.lit (.bool true)], args := [d1, d2, d3, d4] }
  | _ => none }
def fnFarthestLessIsStrictTotalOrderRow : OpenClaim := { program := "qxb6612300a", sum := "bd6c38d02d92c2cdba2ff67faf7a33d4c6411d3b339a44ac561b1ebe4ecce054", func := "example.com/driftring/driftring/zzlaws_root_b1.FnFarthestLessIsStrictTotalOrder", spec := "fnFarthestLessIsStrictTotalOrder", inPlace := ["internal/bytealg.Compare"], plainKeys := false, apart := false }
def FnFarthestLessIsStrictTotalOrderSaid : Prop := fnFarthestLessIsStrictTotalOrderRow.holds Try.pinned (OpenSpec.ofChange fnFarthestLessIsStrictTotalOrderSpec)

/-- ITS FALSE NEIGHBOUR: 'it returns false'. Refute it at one input. -/
def fnFarthestLessIsStrictTotalOrderWrong : ChangeSpec := { name := "fnFarthestLessIsStrictTotalOrder", fn := fun _ => fun
  | [d1, d2, d3, d4] => { results := [.lit (.bool false)], args := [d1, d2, d3, d4] }
  | _ => none }
def FnFarthestLessIsStrictTotalOrderWrongFalsely : Prop := fnFarthestLessIsStrictTotalOrderRow.holds Try.pinned (OpenSpec.ofChange fnFarthestLessIsStrictTotalOrderWrong)

/-- 'zzlaws_root_b1.FnFirstMatchesIdentifierOrder': WHATEVER THE INPUT: true; the input reads as it did. -/
def fnFirstMatchesIdentifierOrderSpec : ChangeSpec := { name := "fnFirstMatchesIdentifierOrder", fn := fun _ => fun
  | [d1, d2, d3, d4] => { results := [.lit (.bool true)], args := [d1, d2, d3, d4] }
  | _ => none }
def fnFirstMatchesIdentifierOrderRow : OpenClaim := { program := "qxb6612300a", sum := "bd6c38d02d92c2cdba2ff67faf7a33d4c6411d3b339a44ac561b1ebe4ecce054", func := "example.com/driftring/driftring/zzlaws_root_b1.FnFirstMatchesIdentifierOrder", spec := "fnFirstMatchesIdentifierOrder", inPlace := ["internal/bytealg.Compare"], plainKeys := false, apart := false }
def FnFirstMatchesIdentifierOrderSaid : Prop := fnFirstMatchesIdentifierOrderRow.holds Try.pinned (OpenSpec.ofChange fnFirstMatchesIdentifierOrderSpec)

/-- ITS FALSE NEIGHBOUR: 'it returns false'. Refute it at one input. -/
def fnFirstMatchesIdentifierOrderWrong : ChangeSpec := { name := "fnFirstMatchesIdentifierOrder", fn := fun _ => fun
  | [d1, d2, d3, d4] => { results := [.lit (.bool false)], args := [d1, d2, d3, d4] }
  | _ => none }
def FnFirstMatchesIdentifierOrderWrongFalsely : Prop := fnFirstMatchesIdentifierOrderRow.holds Try.pinned (OpenSpec.ofChange fnFirstMatchesIdentifierOrderWrong)

/-- 'zzlaws_root_b1.FnFirstOnlyLowestInSortedRing': WHATEVER THE INPUT: true; the input reads as it did. -/
def fnFirstOnlyLowestInSortedRingSpec : ChangeSpec := { name := "fnFirstOnlyLowestInSortedRing", fn := fun _ => fun
  | [d] => { results := [.lit (.bool true)], args := [d] }
  | _ => none }
def fnFirstOnlyLowestInSortedRingRow : OpenClaim := { program := "qxb6612300a", sum := "bd6c38d02d92c2cdba2ff67faf7a33d4c6411d3b339a44ac561b1ebe4ecce054", func := "example.com/driftring/driftring/zzlaws_root_b1.FnFirstOnlyLowestInSortedRing", spec := "fnFirstOnlyLowestInSortedRing", inPlace := ["internal/bytealg.Compare"], plainKeys := false, apart := false }
def FnFirstOnlyLowestInSortedRingSaid : Prop := fnFirstOnlyLowestInSortedRingRow.holds Try.pinned (OpenSpec.ofChange fnFirstOnlyLowestInSortedRingSpec)

/-- ITS FALSE NEIGHBOUR: 'it returns false'. Refute it at one input. -/
def fnFirstOnlyLowestInSortedRingWrong : ChangeSpec := { name := "fnFirstOnlyLowestInSortedRing", fn := fun _ => fun
  | [d] => { results := [.lit (.bool false)], args := [d] }
  | _ => none }
def FnFirstOnlyLowestInSortedRingWrongFalsely : Prop := fnFirstOnlyLowestInSortedRingRow.holds Try.pinned (OpenSpec.ofChange fnFirstOnlyLowestInSortedRingWrong)

/-- 'zzlaws_root_b1.FnSplitItemMessagesHalveInOrder': WHATEVER THE INPUT: true; the input reads as it did. -/
def fnSplitItemMessagesHalveInOrderSpec : ChangeSpec := { name := "fnSplitItemMessagesHalveInOrder", fn := fun _ => fun
  | [d1, d2] => { results := [.lit (.bool true)], args := [d1, d2] }
  | _ => none }
def fnSplitItemMessagesHalveInOrderRow : OpenClaim := { program := "qxb6612300a", sum := "bd6c38d02d92c2cdba2ff67faf7a33d4c6411d3b339a44ac561b1ebe4ecce054", func := "example.com/driftring/driftring/zzlaws_root_b1.FnSplitItemMessagesHalveInOrder", spec := "fnSplitItemMessagesHalveInOrder", unfollowed := true, recurses := true, plainKeys := false, apart := false }
def FnSplitItemMessagesHalveInOrderSaid : Prop := fnSplitItemMessagesHalveInOrderRow.holds Try.pinned (OpenSpec.ofChange fnSplitItemMessagesHalveInOrderSpec)

/-- ITS FALSE NEIGHBOUR: 'it returns false'. Refute it at one input. -/
def fnSplitItemMessagesHalveInOrderWrong : ChangeSpec := { name := "fnSplitItemMessagesHalveInOrder", fn := fun _ => fun
  | [d1, d2] => { results := [.lit (.bool false)], args := [d1, d2] }
  | _ => none }
def FnSplitItemMessagesHalveInOrderWrongFalsely : Prop := fnSplitItemMessagesHalveInOrderRow.holds Try.pinned (OpenSpec.ofChange fnSplitItemMessagesHalveInOrderWrong)

/-- 'zzlaws_root_b1.FnSplitLeavingKeepsHeadHandsOverTail': WHATEVER THE INPUT: true; the input reads as it did. -/
def fnSplitLeavingKeepsHeadHandsOverTailSpec : ChangeSpec := { name := "fnSplitLeavingKeepsHeadHandsOverTail", fn := fun _ => fun
  | [d1, d2, d3, d4, d5, d6] => { results := [.lit (.bool true)], args := [d1, d2, d3, d4, d5, d6] }
  | _ => none }
def fnSplitLeavingKeepsHeadHandsOverTailRow : OpenClaim := { program := "qxb6612300a", sum := "bd6c38d02d92c2cdba2ff67faf7a33d4c6411d3b339a44ac561b1ebe4ecce054", func := "example.com/driftring/driftring/zzlaws_root_b1.FnSplitLeavingKeepsHeadHandsOverTail", spec := "fnSplitLeavingKeepsHeadHandsOverTail", unfollowed := true, recurses := true, plainKeys := false, apart := false }
def FnSplitLeavingKeepsHeadHandsOverTailSaid : Prop := fnSplitLeavingKeepsHeadHandsOverTailRow.holds Try.pinned (OpenSpec.ofChange fnSplitLeavingKeepsHeadHandsOverTailSpec)

/-- ITS FALSE NEIGHBOUR: 'it returns false'. Refute it at one input. -/
def fnSplitLeavingKeepsHeadHandsOverTailWrong : ChangeSpec := { name := "fnSplitLeavingKeepsHeadHandsOverTail", fn := fun _ => fun
  | [d1, d2, d3, d4, d5, d6] => { results := [.lit (.bool false)], args := [d1, d2, d3, d4, d5, d6] }
  | _ => none }
def FnSplitLeavingKeepsHeadHandsOverTailWrongFalsely : Prop := fnSplitLeavingKeepsHeadHandsOverTailRow.holds Try.pinned (OpenSpec.ofChange fnSplitLeavingKeepsHeadHandsOverTailWrong)

end Rows
end Go.Proofs.Qxb6612300a
