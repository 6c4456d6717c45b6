/-
  NARROWER THAN 'FOR EVERY INPUT', by the rows' own cells (each row's printed sentence says how): FnHeaderFrameSizeMatchesAMQPLayout: maps · FnHeaderFrameSizeKeyCountsAsItsHeader: maps · FnPublishedHeadersExact: maps · FnPublishedHeadersIdempotent: maps.
  DERIVED. THE GIVEN ROWS OF THIS SEAT. 4 by the template 'for every input the law returns true; each argument reads behind the call as it read before'; 0 by the template 'total and deterministic' (their statements: Qxb6602802aTotals.lean).
  GIVEN WITH THE SEED: the statements are not yours to turn. If you find one false, say at which input.
  Laid BY PROGRAM, IN A SANDBOX (cutbox-rows.mjs): the forced cells as the released guide's own fill.sh prints them over the translation b3b3ac76998c0b9e… (all of the seat's roots in one cut). By AI agents, Wed Nov 11 2026. No macro, syntax, notation, axiom, sorry.
-/
import Derived.Test.Qxb6602802aChecked
import GoSem.Claim
import GoSem.ClaimJoined
import GoSem.ClaimMapViews
import Derived.JoinedTies
import Derived.KernelRfl
namespace Go.Proofs.Qxb6602802a
/- THE CELL 'sum', in the pinned program and in every row, IS THE sha256 OF THE DUMP (.gsa) THAT Qxb6602802aProg.lean LOADS. Nothing in Lean hashes anything: it is a label: what it is worth is what the hold of that sum in a sandbox is worth. -/
noncomputable def Try.pinned : Pinned := { name := "qxb6602802a", sum := "b3b3ac76998c0b9efd9e486862f64727bbf7874d4e94d27ca37f4c0ad7544411", checked := Try.checked }
namespace Rows
def none {H : Type} : Left H := { results := [], args := [] }

/-- 'zzlaws_rabbitmq_b1.FnHeaderFrameSizeMatchesAMQPLayout': WHATEVER THE INPUT: true; the input reads as it did. -/
def fnHeaderFrameSizeMatchesAMQPLayoutSpec : ChangeSpec := { name := "fnHeaderFrameSizeMatchesAMQPLayout", fn := fun _ => fun
  | [d1, d2, d3, d4, d5, d6] => { results := [.lit (.bool true)], args := [d1, d2, d3, d4, d5, d6] }
  | _ => none }
def fnHeaderFrameSizeMatchesAMQPLayoutRow : OpenClaim := { program := "qxb6602802a", sum := "b3b3ac76998c0b9efd9e486862f64727bbf7874d4e94d27ca37f4c0ad7544411", func := "example.com/tx1/tx1/zzlaws_rabbitmq_b1.FnHeaderFrameSizeMatchesAMQPLayout", spec := "fnHeaderFrameSizeMatchesAMQPLayout", maps := true, apart := false }
def FnHeaderFrameSizeMatchesAMQPLayoutSaid : Prop := fnHeaderFrameSizeMatchesAMQPLayoutRow.holds Try.pinned (OpenSpec.ofChange fnHeaderFrameSizeMatchesAMQPLayoutSpec)

/-- ITS FALSE NEIGHBOUR: 'it returns false'. Refute it at one input. -/
def fnHeaderFrameSizeMatchesAMQPLayoutWrong : ChangeSpec := { name := "fnHeaderFrameSizeMatchesAMQPLayout", fn := fun _ => fun
  | [d1, d2, d3, d4, d5, d6] => { results := [.lit (.bool false)], args := [d1, d2, d3, d4, d5, d6] }
  | _ => none }
def FnHeaderFrameSizeMatchesAMQPLayoutWrongFalsely : Prop := fnHeaderFrameSizeMatchesAMQPLayoutRow.holds Try.pinned (OpenSpec.ofChange fnHeaderFrameSizeMatchesAMQPLayoutWrong)

/-- 'zzlaws_rabbitmq_b1.FnHeaderFrameSizeKeyCountsAsItsHeader': WHATEVER THE INPUT: true; the input reads as it did. -/
def fnHeaderFrameSizeKeyCountsAsItsHeaderSpec : ChangeSpec := { name := "fnHeaderFrameSizeKeyCountsAsItsHeader", fn := fun _ => fun
  | [d1, d2, d3, d4, d5, d6] => { results := [.lit (.bool true)], args := [d1, d2, d3, d4, d5, d6] }
  | _ => none }
def fnHeaderFrameSizeKeyCountsAsItsHeaderRow : OpenClaim := { program := "qxb6602802a", sum := "b3b3ac76998c0b9efd9e486862f64727bbf7874d4e94d27ca37f4c0ad7544411", func := "example.com/tx1/tx1/zzlaws_rabbitmq_b1.FnHeaderFrameSizeKeyCountsAsItsHeader", spec := "fnHeaderFrameSizeKeyCountsAsItsHeader", maps := true, apart := false }
def FnHeaderFrameSizeKeyCountsAsItsHeaderSaid : Prop := fnHeaderFrameSizeKeyCountsAsItsHeaderRow.holds Try.pinned (OpenSpec.ofChange fnHeaderFrameSizeKeyCountsAsItsHeaderSpec)

/-- ITS FALSE NEIGHBOUR: 'it returns false'. Refute it at one input. -/
def fnHeaderFrameSizeKeyCountsAsItsHeaderWrong : ChangeSpec := { name := "fnHeaderFrameSizeKeyCountsAsItsHeader", fn := fun _ => fun
  | [d1, d2, d3, d4, d5, d6] => { results := [.lit (.bool false)], args := [d1, d2, d3, d4, d5, d6] }
  | _ => none }
def FnHeaderFrameSizeKeyCountsAsItsHeaderWrongFalsely : Prop := fnHeaderFrameSizeKeyCountsAsItsHeaderRow.holds Try.pinned (OpenSpec.ofChange fnHeaderFrameSizeKeyCountsAsItsHeaderWrong)

/-- 'zzlaws_rabbitmq_b1.FnPublishedHeadersExact': WHATEVER THE INPUT: true; the input reads as it did. -/
def fnPublishedHeadersExactSpec : ChangeSpec := { name := "fnPublishedHeadersExact", fn := fun _ => fun
  | [d1, d2, d3, d4, d5, d6] => { results := [.lit (.bool true)], args := [d1, d2, d3, d4, d5, d6] }
  | _ => none }
def fnPublishedHeadersExactRow : OpenClaim := { program := "qxb6602802a", sum := "b3b3ac76998c0b9efd9e486862f64727bbf7874d4e94d27ca37f4c0ad7544411", func := "example.com/tx1/tx1/zzlaws_rabbitmq_b1.FnPublishedHeadersExact", spec := "fnPublishedHeadersExact", maps := true, apart := false }
def FnPublishedHeadersExactSaid : Prop := fnPublishedHeadersExactRow.holds Try.pinned (OpenSpec.ofChange fnPublishedHeadersExactSpec)

/-- ITS FALSE NEIGHBOUR: 'it returns false'. Refute it at one input. -/
def fnPublishedHeadersExactWrong : ChangeSpec := { name := "fnPublishedHeadersExact", fn := fun _ => fun
  | [d1, d2, d3, d4, d5, d6] => { results := [.lit (.bool false)], args := [d1, d2, d3, d4, d5, d6] }
  | _ => none }
def FnPublishedHeadersExactWrongFalsely : Prop := fnPublishedHeadersExactRow.holds Try.pinned (OpenSpec.ofChange fnPublishedHeadersExactWrong)

/-- 'zzlaws_rabbitmq_b1.FnPublishedHeadersIdempotent': WHATEVER THE INPUT: true; the input reads as it did. -/
def fnPublishedHeadersIdempotentSpec : ChangeSpec := { name := "fnPublishedHeadersIdempotent", fn := fun _ => fun
  | [d1, d2, d3, d4, d5, d6] => { results := [.lit (.bool true)], args := [d1, d2, d3, d4, d5, d6] }
  | _ => none }
def fnPublishedHeadersIdempotentRow : OpenClaim := { program := "qxb6602802a", sum := "b3b3ac76998c0b9efd9e486862f64727bbf7874d4e94d27ca37f4c0ad7544411", func := "example.com/tx1/tx1/zzlaws_rabbitmq_b1.FnPublishedHeadersIdempotent", spec := "fnPublishedHeadersIdempotent", maps := true, apart := false }
def FnPublishedHeadersIdempotentSaid : Prop := fnPublishedHeadersIdempotentRow.holds Try.pinned (OpenSpec.ofChange fnPublishedHeadersIdempotentSpec)

/-- ITS FALSE NEIGHBOUR: 'it returns false'. Refute it at one input. -/
def fnPublishedHeadersIdempotentWrong : ChangeSpec := { name := "fnPublishedHeadersIdempotent", fn := fun _ => fun
  | [d1, d2, d3, d4, d5, d6] => { results := [.lit (.bool false)], args := [d1, d2, d3, d4, d5, d6] }
  | _ => none }
def FnPublishedHeadersIdempotentWrongFalsely : Prop := fnPublishedHeadersIdempotentRow.holds Try.pinned (OpenSpec.ofChange fnPublishedHeadersIdempotentWrong)

end Rows
end Go.Proofs.Qxb6602802a
