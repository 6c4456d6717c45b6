/-
  No cell of these rows narrows 'for every input' (looked for: loops, veiled, ifaces, maps, wideKeys, modest, calm, conditions, laid).
  DERIVED. THE GIVEN ROWS OF THIS SEAT. 3 by the template 'for every input the law returns true; each argument reads behind the call as it read before'; 0 by the template 'total and deterministic' (their statements: Qxb6602820aTotals.lean).
  GIVEN WITH THE SEED: the statements are not yours to turn. If you find one false, say at which input.
  Laid BY PROGRAM, IN A SANDBOX (cutbox-rows.mjs): the forced cells as the released guide's own fill.sh prints them over the translation b2dee358a8f62b03… (all of the seat's roots in one cut). By AI agents, Wed Nov 11 2026. No macro, syntax, notation, axiom, sorry.
-/
import Derived.Test.Qxb6602820aChecked
import GoSem.Claim
import GoSem.ClaimJoined
import GoSem.ClaimMapViews
import Derived.JoinedTies
import Derived.KernelRfl
namespace Go.Proofs.Qxb6602820a
/- THE CELL 'sum', in the pinned program and in every row, IS THE sha256 OF THE DUMP (.gsa) THAT Qxb6602820aProg.lean LOADS. Nothing in Lean hashes anything: it is a label: what it is worth is what the hold of that sum in a sandbox is worth. -/
noncomputable def Try.pinned : Pinned := { name := "qxb6602820a", sum := "b2dee358a8f62b03d95f54e379c092862f1e4049cfc05760792a705c246784d3", checked := Try.checked }
namespace Rows
def none {H : Type} : Left H := { results := [], args := [] }

/-- 'zzlaws_internal_signinload_b1.FnLargestIsLeastUpperBoundWithZero': WHATEVER THE INPUT: true; the input reads as it did. -/
def fnLargestIsLeastUpperBoundWithZeroSpec : ChangeSpec := { name := "fnLargestIsLeastUpperBoundWithZero", fn := fun _ => fun
  | [d1, d2, d3, d4, d5, d6] => { results := [.lit (.bool true)], args := [d1, d2, d3, d4, d5, d6] }
  | _ => none }
def fnLargestIsLeastUpperBoundWithZeroRow : OpenClaim := { program := "qxb6602820a", sum := "b2dee358a8f62b03d95f54e379c092862f1e4049cfc05760792a705c246784d3", func := "example.com/diligent-auth/diligent-auth/zzlaws_internal_signinload_b1.FnLargestIsLeastUpperBoundWithZero", spec := "fnLargestIsLeastUpperBoundWithZero", apart := false }
def FnLargestIsLeastUpperBoundWithZeroSaid : Prop := fnLargestIsLeastUpperBoundWithZeroRow.holds Try.pinned (OpenSpec.ofChange fnLargestIsLeastUpperBoundWithZeroSpec)

/-- ITS FALSE NEIGHBOUR: 'it returns false'. Refute it at one input. -/
def fnLargestIsLeastUpperBoundWithZeroWrong : ChangeSpec := { name := "fnLargestIsLeastUpperBoundWithZero", fn := fun _ => fun
  | [d1, d2, d3, d4, d5, d6] => { results := [.lit (.bool false)], args := [d1, d2, d3, d4, d5, d6] }
  | _ => none }
def FnLargestIsLeastUpperBoundWithZeroWrongFalsely : Prop := fnLargestIsLeastUpperBoundWithZeroRow.holds Try.pinned (OpenSpec.ofChange fnLargestIsLeastUpperBoundWithZeroWrong)

/-- 'zzlaws_internal_signinload_b1.FnLargestIgnoresOrder': WHATEVER THE INPUT: true; the input reads as it did. -/
def fnLargestIgnoresOrderSpec : ChangeSpec := { name := "fnLargestIgnoresOrder", fn := fun _ => fun
  | [d1, d2, d3, d4, d5, d6] => { results := [.lit (.bool true)], args := [d1, d2, d3, d4, d5, d6] }
  | _ => none }
def fnLargestIgnoresOrderRow : OpenClaim := { program := "qxb6602820a", sum := "b2dee358a8f62b03d95f54e379c092862f1e4049cfc05760792a705c246784d3", func := "example.com/diligent-auth/diligent-auth/zzlaws_internal_signinload_b1.FnLargestIgnoresOrder", spec := "fnLargestIgnoresOrder", apart := false }
def FnLargestIgnoresOrderSaid : Prop := fnLargestIgnoresOrderRow.holds Try.pinned (OpenSpec.ofChange fnLargestIgnoresOrderSpec)

/-- ITS FALSE NEIGHBOUR: 'it returns false'. Refute it at one input. -/
def fnLargestIgnoresOrderWrong : ChangeSpec := { name := "fnLargestIgnoresOrder", fn := fun _ => fun
  | [d1, d2, d3, d4, d5, d6] => { results := [.lit (.bool false)], args := [d1, d2, d3, d4, d5, d6] }
  | _ => none }
def FnLargestIgnoresOrderWrongFalsely : Prop := fnLargestIgnoresOrderRow.holds Try.pinned (OpenSpec.ofChange fnLargestIgnoresOrderWrong)

/-- 'zzlaws_internal_signinload_b1.FnLargestRaiseOne': WHATEVER THE INPUT: true; the input reads as it did. -/
def fnLargestRaiseOneSpec : ChangeSpec := { name := "fnLargestRaiseOne", fn := fun _ => fun
  | [d1, d2, d3, d4, d5, d6, d7] => { results := [.lit (.bool true)], args := [d1, d2, d3, d4, d5, d6, d7] }
  | _ => none }
def fnLargestRaiseOneRow : OpenClaim := { program := "qxb6602820a", sum := "b2dee358a8f62b03d95f54e379c092862f1e4049cfc05760792a705c246784d3", func := "example.com/diligent-auth/diligent-auth/zzlaws_internal_signinload_b1.FnLargestRaiseOne", spec := "fnLargestRaiseOne", apart := false }
def FnLargestRaiseOneSaid : Prop := fnLargestRaiseOneRow.holds Try.pinned (OpenSpec.ofChange fnLargestRaiseOneSpec)

/-- ITS FALSE NEIGHBOUR: 'it returns false'. Refute it at one input. -/
def fnLargestRaiseOneWrong : ChangeSpec := { name := "fnLargestRaiseOne", fn := fun _ => fun
  | [d1, d2, d3, d4, d5, d6, d7] => { results := [.lit (.bool false)], args := [d1, d2, d3, d4, d5, d6, d7] }
  | _ => none }
def FnLargestRaiseOneWrongFalsely : Prop := fnLargestRaiseOneRow.holds Try.pinned (OpenSpec.ofChange fnLargestRaiseOneWrong)

end Rows
end Go.Proofs.Qxb6602820a
