/-
  No cell of these rows narrows 'for every input' (looked for: loops, veiled, ifaces, maps, wideKeys, modest, calm, conditions, laid).
  DERIVED. THE GIVEN ROWS OF THIS SEAT. 3 by the template 'for every input the law returns true; each argument reads behind the call as it read before'; 0 by the template 'total and deterministic' (their statements: Qxb6600895aTotals.lean).
  GIVEN WITH THE SEED: the statements are not yours to turn. If you find one false, say at which input.
  Laid BY PROGRAM, IN A SANDBOX (cutbox-rows.mjs): the forced cells as the released guide's own fill.sh prints them over the translation b89617a2d784860f… (all of the seat's roots in one cut). By AI agents, Wed Nov 11 2026. No macro, syntax, notation, axiom, sorry.
-/
import Derived.Test.Qxb6600895aChecked
import GoSem.Claim
import GoSem.ClaimJoined
import GoSem.ClaimMapViews
import Derived.JoinedTies
import Derived.KernelRfl
namespace Go.Proofs.Qxb6600895a
/- THE CELL 'sum', in the pinned program and in every row, IS THE sha256 OF THE DUMP (.gsa) THAT Qxb6600895aProg.lean LOADS. Nothing in Lean hashes anything: it is a label: what it is worth is what the hold of that sum in a sandbox is worth. -/
noncomputable def Try.pinned : Pinned := { name := "qxb6600895a", sum := "b89617a2d784860f3b9c83dc41000209b1d1540fda43afabe615734a2f9a85bc", checked := Try.checked }
namespace Rows
def none {H : Type} : Left H := { results := [], args := [] }

/-- 'zzlaws_pkg_postgres_b1.FnConstantEndMatchesAutomaton': WHATEVER THE INPUT: true; the input reads as it did. -/
def fnConstantEndMatchesAutomatonSpec : ChangeSpec := { name := "fnConstantEndMatchesAutomaton", fn := fun _ => fun
  | [d1, d2, d3] => { results := [.lit (.bool true)], args := [d1, d2, d3] }
  | _ => none }
def fnConstantEndMatchesAutomatonRow : OpenClaim := { program := "qxb6600895a", sum := "b89617a2d784860f3b9c83dc41000209b1d1540fda43afabe615734a2f9a85bc", func := "example.com/fieldveil/fieldveil/zzlaws_pkg_postgres_b1.FnConstantEndMatchesAutomaton", spec := "fnConstantEndMatchesAutomaton", apart := false }
def FnConstantEndMatchesAutomatonSaid : Prop := fnConstantEndMatchesAutomatonRow.holds Try.pinned (OpenSpec.ofChange fnConstantEndMatchesAutomatonSpec)

/-- ITS FALSE NEIGHBOUR: 'it returns false'. Refute it at one input. -/
def fnConstantEndMatchesAutomatonWrong : ChangeSpec := { name := "fnConstantEndMatchesAutomaton", fn := fun _ => fun
  | [d1, d2, d3] => { results := [.lit (.bool false)], args := [d1, d2, d3] }
  | _ => none }
def FnConstantEndMatchesAutomatonWrongFalsely : Prop := fnConstantEndMatchesAutomatonRow.holds Try.pinned (OpenSpec.ofChange fnConstantEndMatchesAutomatonWrong)

/-- 'zzlaws_pkg_postgres_b1.FnLexTokenClosesWithItsOpeningByte': WHATEVER THE INPUT: true; the input reads as it did. -/
def fnLexTokenClosesWithItsOpeningByteSpec : ChangeSpec := { name := "fnLexTokenClosesWithItsOpeningByte", fn := fun _ => fun
  | [d1, d2] => { results := [.lit (.bool true)], args := [d1, d2] }
  | _ => none }
def fnLexTokenClosesWithItsOpeningByteRow : OpenClaim := { program := "qxb6600895a", sum := "b89617a2d784860f3b9c83dc41000209b1d1540fda43afabe615734a2f9a85bc", func := "example.com/fieldveil/fieldveil/zzlaws_pkg_postgres_b1.FnLexTokenClosesWithItsOpeningByte", spec := "fnLexTokenClosesWithItsOpeningByte", inPlace := ["internal/bytealg.IndexByteString"], apart := false }
def FnLexTokenClosesWithItsOpeningByteSaid : Prop := fnLexTokenClosesWithItsOpeningByteRow.holds Try.pinned (OpenSpec.ofChange fnLexTokenClosesWithItsOpeningByteSpec)

/-- ITS FALSE NEIGHBOUR: 'it returns false'. Refute it at one input. -/
def fnLexTokenClosesWithItsOpeningByteWrong : ChangeSpec := { name := "fnLexTokenClosesWithItsOpeningByte", fn := fun _ => fun
  | [d1, d2] => { results := [.lit (.bool false)], args := [d1, d2] }
  | _ => none }
def FnLexTokenClosesWithItsOpeningByteWrongFalsely : Prop := fnLexTokenClosesWithItsOpeningByteRow.holds Try.pinned (OpenSpec.ofChange fnLexTokenClosesWithItsOpeningByteWrong)

/-- 'zzlaws_pkg_postgres_b1.FnLexShiftInvariant': WHATEVER THE INPUT: true; the input reads as it did. -/
def fnLexShiftInvariantSpec : ChangeSpec := { name := "fnLexShiftInvariant", fn := fun _ => fun
  | [d1, d2, d3] => { results := [.lit (.bool true)], args := [d1, d2, d3] }
  | _ => none }
def fnLexShiftInvariantRow : OpenClaim := { program := "qxb6600895a", sum := "b89617a2d784860f3b9c83dc41000209b1d1540fda43afabe615734a2f9a85bc", func := "example.com/fieldveil/fieldveil/zzlaws_pkg_postgres_b1.FnLexShiftInvariant", spec := "fnLexShiftInvariant", inPlace := ["internal/bytealg.IndexByteString"], apart := false }
def FnLexShiftInvariantSaid : Prop := fnLexShiftInvariantRow.holds Try.pinned (OpenSpec.ofChange fnLexShiftInvariantSpec)

/-- ITS FALSE NEIGHBOUR: 'it returns false'. Refute it at one input. -/
def fnLexShiftInvariantWrong : ChangeSpec := { name := "fnLexShiftInvariant", fn := fun _ => fun
  | [d1, d2, d3] => { results := [.lit (.bool false)], args := [d1, d2, d3] }
  | _ => none }
def FnLexShiftInvariantWrongFalsely : Prop := fnLexShiftInvariantRow.holds Try.pinned (OpenSpec.ofChange fnLexShiftInvariantWrong)

end Rows
end Go.Proofs.Qxb6600895a
