/-
  THE WALKS OF mkLegs, largest, ZZlargest. Own work.
-/
import Derived.Test.Qxb6602820aRows
import Derived.WalkKit
import Derived.ProofKit
namespace Go.Proofs.Qxb6602820a
open Go.RowKit

set_option maxRecDepth 100000 in
theorem mkLegs_any (a b c d e f : Int) (w : World) :
    Calls Try.prog 7 #[.int .i64 a, .int .i64 b, .int .i64 c, .int .i64 d, .int .i64 e, .int .i64 f] w fun r w' => r = .returned (.agg #[.int .i64 a, .int .i64 b, .int .i64 c, .int .i64 d, .int .i64 e, .int .i64 f]) ∧ Below w.heap.size w w' := by
  go_enter Try.func7, Try.ntmps7
  go_wp2
  exact bodyPost_ret (v := .agg #[.int .i64 a, .int .i64 b, .int .i64 c, .int .i64 d, .int .i64 e, .int .i64 f]) (by simp [results, Try.results7, go_sem]) rfl ⟨rfl, (Below.refl _ _).alloc (Nat.le_refl _) _⟩

/-- The greatest of three, as Go's built-in reckons it. -/
def mx3 (x y z : Int) : Int := if z > (if y > x then y else x) then z else (if y > x then y else x)

theorem mx3_is (x y z : Int) : x ≤ mx3 x y z ∧ y ≤ mx3 x y z ∧ z ≤ mx3 x y z ∧ (mx3 x y z = x ∨ mx3 x y z = y ∨ mx3 x y z = z) := by
  unfold mx3
  split <;> split <;> omega

theorem run_mx3 (x y z : Int) (ts : Array TypeId) (t : TypeId) (w : World) : (Builtin.max_ ts t #[.int .i64 x, .int .i64 y, .int .i64 z]).run Try.prog w = .ok (.int .i64 (mx3 x y z)) w := by
  simp [Builtin.max_, Builtin.max2, mx3]

/-- The greatest of nought and six numbers, as 'largest' reckons it. -/
def lg (a b c d e f : Int) : Int := mx3 (mx3 (mx3 0 a b) c d) e f

set_option maxRecDepth 100000 in
theorem largest_any (a b c d e f : Int) (w : World) :
    Calls Try.prog 8 #[.agg #[.int .i64 a, .int .i64 b, .int .i64 c, .int .i64 d, .int .i64 e, .int .i64 f]] w fun r w' => r = .returned (.int .i64 (lg a b c d e f)) ∧ Below w.heap.size w w' := by
  have j0 : ∀ w, (Instr.index 25 (.agg #[.int .i64 a, .int .i64 b, .int .i64 c, .int .i64 d, .int .i64 e, .int .i64 f]) (.int .i64 0)).run Try.prog w = .ok (.agg #[.int .i64 a, .int .i64 b]) w := fun _ => by kernel_rfl
  have j1 : ∀ w, (Instr.index 25 (.agg #[.int .i64 a, .int .i64 b, .int .i64 c, .int .i64 d, .int .i64 e, .int .i64 f]) (.int .i64 1)).run Try.prog w = .ok (.agg #[.int .i64 c, .int .i64 d]) w := fun _ => by kernel_rfl
  have j2 : ∀ w, (Instr.index 25 (.agg #[.int .i64 a, .int .i64 b, .int .i64 c, .int .i64 d, .int .i64 e, .int .i64 f]) (.int .i64 2)).run Try.prog w = .ok (.agg #[.int .i64 e, .int .i64 f]) w := fun _ => by kernel_rfl
  have hmx := run_mx3
  go_enter Try.func8, Try.ntmps8
  go_wp2
  refine wp_loop_rounds 4 ?_
  rw [rounds_succ]
  go_wp2
  rw [rounds_succ]
  go_wp2
  rw [rounds_succ]
  go_wp2
  rw [rounds_succ]
  go_wp2
  go_ret
  exact ⟨rfl, ((((Below.refl _ _).alloc (Nat.le_refl _) _).alloc (by simp) _).alloc (by simp; omega) _).alloc (by simp; omega) _⟩

set_option maxRecDepth 100000 in
theorem zlargest_any (a b c d e f : Int) (w : World) :
    Calls Try.prog 6 #[.agg #[.int .i64 a, .int .i64 b, .int .i64 c, .int .i64 d, .int .i64 e, .int .i64 f]] w fun r w' => r = .returned (.int .i64 (lg a b c d e f)) ∧ Below w.heap.size w w' := by
  go_enter Try.func6, Try.ntmps6
  go_wp2_with (go_at_call 8; refine (largest_any a b c d e f _).mono ?_; rintro r w1 ⟨rfl, hb⟩)
  go_ret
  exact ⟨rfl, ((Below.refl _ _).alloc (Nat.le_refl _) _).trans (hb.mono (by simp))⟩

end Go.Proofs.Qxb6602820a
