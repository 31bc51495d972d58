/-
  No cell of these rows narrows 'for every input' (looked for: loops, veiled, ifaces, maps, wideKeys, modest, calm, conditions, laid).
  DERIVED. THE GIVEN ROWS OF THIS SEAT. 2 by the template 'for every input the law returns true; each argument reads behind the call as it read before'; 0 by the template 'total and deterministic' (their statements: Qxb6609294aTotals.lean).
  GIVEN WITH THE SEED: the statements are not yours to turn. If you find one false, say at which input.
  Laid BY PROGRAM, IN A SANDBOX (cutbox-rows.mjs): the forced cells as the released guide's own fill.sh prints them over the translation 5184bbc8732b3f50… (all of the seat's roots in one cut). By AI agents, Wed Nov 11 2026. No macro, syntax, notation, axiom, sorry.
-/
import Derived.Test.Qxb6609294aChecked
import GoSem.Claim
import GoSem.ClaimJoined
import GoSem.ClaimMapViews
import Derived.JoinedTies
import Derived.KernelRfl
namespace Go.Proofs.Qxb6609294a
/- THE CELL 'sum', in the pinned program and in every row, IS THE sha256 OF THE DUMP (.gsa) THAT Qxb6609294aProg.lean LOADS. Nothing in Lean hashes anything: it is a label: what it is worth is what the hold of that sum in a sandbox is worth. -/
noncomputable def Try.pinned : Pinned := { name := "qxb6609294a", sum := "5184bbc8732b3f50c2bde8e8e3b0523b2224e1a906508e95799ee0938d7fb720", checked := Try.checked }
namespace Rows
def none {H : Type} : Left H := { results := [], args := [] }

/-- 'zzlaws_internal_rules_b1.FnAnyOfMintsOneFreshVariable': WHATEVER THE INPUT: true; the input reads as it did. -/
def fnAnyOfMintsOneFreshVariableSpec : ChangeSpec := { name := "fnAnyOfMintsOneFreshVariable", fn := fun _ => fun
  | [d1, d2] => { results := [.lit (.bool true)], args := [d1, d2] }
  | _ => none }
def fnAnyOfMintsOneFreshVariableRow : OpenClaim := { program := "qxb6609294a", sum := "5184bbc8732b3f50c2bde8e8e3b0523b2224e1a906508e95799ee0938d7fb720", func := "example.com/covenant/covenant/zzlaws_internal_rules_b1.FnAnyOfMintsOneFreshVariable", spec := "fnAnyOfMintsOneFreshVariable", unfollowed := true, recurses := true, plainKeys := false, apart := false }
def FnAnyOfMintsOneFreshVariableSaid : Prop := fnAnyOfMintsOneFreshVariableRow.holds Try.pinned (OpenSpec.ofChange fnAnyOfMintsOneFreshVariableSpec)

/-- ITS FALSE NEIGHBOUR: 'it returns false'. Refute it at one input. -/
def fnAnyOfMintsOneFreshVariableWrong : ChangeSpec := { name := "fnAnyOfMintsOneFreshVariable", fn := fun _ => fun
  | [d1, d2] => { results := [.lit (.bool false)], args := [d1, d2] }
  | _ => none }
def FnAnyOfMintsOneFreshVariableWrongFalsely : Prop := fnAnyOfMintsOneFreshVariableRow.holds Try.pinned (OpenSpec.ofChange fnAnyOfMintsOneFreshVariableWrong)

/-- 'zzlaws_internal_rules_b1.FnAnyOfNestedOrsAreNumberedInTurn': WHATEVER THE INPUT: true; the input reads as it did. -/
def fnAnyOfNestedOrsAreNumberedInTurnSpec : ChangeSpec := { name := "fnAnyOfNestedOrsAreNumberedInTurn", fn := fun _ => fun
  | [d1, d2] => { results := [.lit (.bool true)], args := [d1, d2] }
  | _ => none }
def fnAnyOfNestedOrsAreNumberedInTurnRow : OpenClaim := { program := "qxb6609294a", sum := "5184bbc8732b3f50c2bde8e8e3b0523b2224e1a906508e95799ee0938d7fb720", func := "example.com/covenant/covenant/zzlaws_internal_rules_b1.FnAnyOfNestedOrsAreNumberedInTurn", spec := "fnAnyOfNestedOrsAreNumberedInTurn", unfollowed := true, recurses := true, plainKeys := false, apart := false }
def FnAnyOfNestedOrsAreNumberedInTurnSaid : Prop := fnAnyOfNestedOrsAreNumberedInTurnRow.holds Try.pinned (OpenSpec.ofChange fnAnyOfNestedOrsAreNumberedInTurnSpec)

/-- ITS FALSE NEIGHBOUR: 'it returns false'. Refute it at one input. -/
def fnAnyOfNestedOrsAreNumberedInTurnWrong : ChangeSpec := { name := "fnAnyOfNestedOrsAreNumberedInTurn", fn := fun _ => fun
  | [d1, d2] => { results := [.lit (.bool false)], args := [d1, d2] }
  | _ => none }
def FnAnyOfNestedOrsAreNumberedInTurnWrongFalsely : Prop := fnAnyOfNestedOrsAreNumberedInTurnRow.holds Try.pinned (OpenSpec.ofChange fnAnyOfNestedOrsAreNumberedInTurnWrong)

end Rows
end Go.Proofs.Qxb6609294a
