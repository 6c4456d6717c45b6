/-
  THE WALK OF zzSameValues: two slices of the same contents. Own work.
-/
import Derived.Test.Qxb6602802aPub
namespace Go.Proofs.Qxb6602802a
open Go.RowKit Go.Maps

set_option maxRecDepth 100000 in
theorem same_nil (w : World) : Calls Try.prog 14 #[.slice none 0 0, .slice none 0 0] w fun e w' => e = .returned (.bool true) ∧ ∃ q, w' = w.drewN q := by
  have he := fun w => Lib.run_eql_slice_nil (P := Try.prog) w 24 9 none 0 0 0 0 Try.underlying24
  go_enter Try.func14, Try.ntmps14
  go_wp2
  refine wp_loop_rounds 1 ?_
  rw [rounds_succ]
  go_wp2
  go_ret
  exact ⟨rfl, 0, rfl⟩

set_option maxRecDepth 100000 in
theorem same_some (a1 a2 : Addr) (n c1 c2 : Nat) (ss : List ByteArray) (w : World) (h1 : SliceIs w (some a1) n c1 (some ss)) (h2 : SliceIs w (some a2) n c2 (some ss)) :
    Calls Try.prog 14 #[.slice (some a1) n c1, .slice (some a2) n c2] w fun e w' => e = .returned (.bool true) ∧ ∃ q, w' = w.drewN q := by
  have he1 := fun w => Lib.run_eql_slice_nil (P := Try.prog) w 24 9 (some a1) n c1 0 0 Try.underlying24
  have he2 := fun w => Lib.run_eql_slice_nil (P := Try.prog) w 24 9 (some a2) n c2 0 0 Try.underlying24
  have hn := h1.le
  unfold maxLen at hn
  go_enter Try.func14, Try.ntmps14
  go_wp2
  go_loopw [5] (fun i wr => ∃ k q : Nat, k ≤ n ∧ i = .int .i64 k ∧ wr = w.drewN q) (fun i _ => n - (intOf i).toNat)
  case atStart => exact ⟨0, 0, Nat.zero_le _, rfl, rfl⟩
  case round =>
    obtain ⟨k, q, hk, rfl, rfl⟩ := hrel
    by_cases hlt : k < n
    · obtain ⟨b1, o1, e1, hb1, hc1⟩ := h1.at (by omega)
      obtain ⟨b2, o2, e2, hb2, hc2⟩ := h2.at (by omega)
      cases e1
      cases e2
      have g1 := hc1 k hlt
      have g2 := hc2 k hlt
      generalize ((some ss).getD []).getD k ByteArray.empty = s at *
      clear hc1 hc2
      have i1 : (k : Int) < (n : Int) := by omega
      have i0 : (0 : Int) ≤ (k : Int) := by omega
      go_wp2
      go_quiet (fail)
      go_wp2
      go_roundw
      case rel => exact ⟨k + 1, q + nq, by omega, by go_num, rfl⟩
      case measure => simp [intOf]; omega
    · go_wp2
      go_ret
      exact ⟨rfl, q, rfl⟩

theorem same_any (p1 p2 : Option Addr) (n1 n2 c1 c2 : Nat) (x : Option (List ByteArray)) (w : World) (h1 : SliceIs w p1 n1 c1 x) (h2 : SliceIs w p2 n2 c2 x) :
    Calls Try.prog 14 #[.slice p1 n1 c1, .slice p2 n2 c2] w fun e w' => e = .returned (.bool true) ∧ ∃ q, w' = w.drewN q := by
  have hn : n1 = n2 := by rw [← h1.len, ← h2.len]
  subst hn
  cases x with
  | none =>
    cases p1 with
    | some a => exact h1.elim
    | none =>
      cases p2 with
      | some a => exact h2.elim
      | none =>
        obtain ⟨rfl, rfl⟩ := h1
        obtain ⟨_, rfl⟩ := h2
        exact same_nil w
  | some ss =>
    cases p1 with
    | none => exact h1.elim
    | some a1 =>
      cases p2 with
      | none => exact h2.elim
      | some a2 => exact same_some a1 a2 n1 c1 c2 ss w h1 h2

end Go.Proofs.Qxb6602802a
