/-
  THE WALK OF FnLargestIsLeastUpperBoundWithZero. Own work.
-/
import Derived.Test.Qxb6602820aLargest
namespace Go.Proofs.Qxb6602820a
open Go.RowKit

theorem lg_is (a b c d e f : Int) : 0 ≤ lg a b c d e f ∧ a ≤ lg a b c d e f ∧ b ≤ lg a b c d e f ∧ c ≤ lg a b c d e f ∧ d ≤ lg a b c d e f ∧ e ≤ lg a b c d e f ∧ f ≤ lg a b c d e f ∧
    (lg a b c d e f = 0 ∨ lg a b c d e f = a ∨ lg a b c d e f = b ∨ lg a b c d e f = c ∨ lg a b c d e f = d ∨ lg a b c d e f = e ∨ lg a b c d e f = f) := by
  have h1 := mx3_is 0 a b
  have h2 := mx3_is (mx3 0 a b) c d
  have h3 := mx3_is (mx3 (mx3 0 a b) c d) e f
  unfold lg
  omega

set_option maxRecDepth 100000 in
set_option maxHeartbeats 1000000 in
theorem bound_any (a b c d e f : Int) (w : World) :
    Calls Try.prog 3 #[.int .i64 a, .int .i64 b, .int .i64 c, .int .i64 d, .int .i64 e, .int .i64 f] w fun r w' => r = .returned (.bool true) ∧ Below w.heap.size w w' := by
  obtain ⟨h0, h1, h2, h3, h4, h5, h6, h7⟩ := lg_is a b c d e f
  have H7 : Hid _ := h7
  clear h7
  go_enter Try.func3, Try.ntmps3
  go_wp2_with (first
    | (go_at_call 7; refine (mkLegs_any a b c d e f _).mono ?_; rintro r w1 ⟨rfl, hb1⟩)
    | (go_at_call 6; refine (zlargest_any a b c d e f _).mono ?_; rintro r w2 ⟨rfl, hb2⟩; have hb : Below w.heap.size w w2 := hb1.trans (hb2.mono hb1.size); clear hb1 hb2; generalize lg a b c d e f = g at *))
  all_goals go_ret
  all_goals first
    | exact ⟨rfl, hb⟩
    | (have hgf : g = f := by have := H7.out; omega
       refine ⟨?_, hb⟩
       show Ending.returned (.bool _) = _
       simp [hgf])

end Go.Proofs.Qxb6602820a
