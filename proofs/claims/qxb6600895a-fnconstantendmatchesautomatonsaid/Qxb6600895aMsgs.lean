/-
  THE WALKS OF b1Messages, zzBytes_FnConstantEndMatchesAutomaton. Own work.
-/
import Derived.Test.Qxb6600895aModel
namespace Go.Proofs.Qxb6600895a
open Go.RowKit

theorem one_open (w : World) : Calls Try.prog 8 #[.string { data := #[39] }, .int .i64 0, .bool false] w fun e w' => e = .returned (.tuple #[.int .i64 0, .string OPEN]) ∧ w' = w :=
  zend_any { data := #[39] } 0 false w (by decide) (by decide) (0, 2) rfl

theorem one_bs (w : World) : Calls Try.prog 8 #[.string { data := #[39, 92, 39] }, .int .i64 0, .bool false] w fun e w' => e = .returned (.tuple #[.int .i64 0, .string BS]) ∧ w' = w :=
  zend_any { data := #[39, 92, 39] } 0 false w (by decide) (by decide) (0, 1) rfl

theorem conv1 (w : World) : (convert 33 9 (.slice (some ⟨w.heap.size, 0, none⟩) 1 1)).run Try.prog (w.alloc (.cells #[.int .u8 39] 5)) = .ok (.string { data := #[39] }) (w.alloc (.cells #[.int .u8 39] 5)) := by
  refine run_convert_bytes_back (w.alloc (.cells #[.int .u8 39] 5)) 33 9 5 ⟨w.heap.size, 0, none⟩ 1 [39] Try.underlying33 Try.underlying5 Try.underlying9 (fun j hj => ?_)
  match j, hj with
  | 0, _ => simp [Addr.add]

theorem conv3 (w : World) : (convert 33 9 (.slice (some ⟨w.heap.size, 0, none⟩) 3 3)).run Try.prog (w.alloc (.cells #[.int .u8 39, .int .u8 92, .int .u8 39] 5)) = .ok (.string { data := #[39, 92, 39] }) (w.alloc (.cells #[.int .u8 39, .int .u8 92, .int .u8 39] 5)) := by
  refine run_convert_bytes_back (w.alloc (.cells #[.int .u8 39, .int .u8 92, .int .u8 39] 5)) 33 9 5 ⟨w.heap.size, 0, none⟩ 3 [39, 92, 39] Try.underlying33 Try.underlying5 Try.underlying9 (fun j hj => ?_)
  match j, hj with
  | 0, _ => simp [Addr.add]
  | 1, _ => simp [Addr.add]
  | 2, _ => simp [Addr.add]

set_option maxRecDepth 100000 in
theorem msgs_any (w : World) : Calls Try.prog 7 #[] w fun e w' => e = .returned (.tuple #[.string OPEN, .string BS, .bool true]) ∧ Below w.heap.size w w' := by
  have c1 := conv1 w
  have c3 := conv3 (w.alloc (.cells #[.int .u8 39] 5))
  have e1 : (w.alloc (.cells #[.int .u8 39] 5)).heap.size = w.heap.size + 1 := by simp
  rw [e1] at c3
  have o1 := open_some
  have o2 := bs_some
  have o3 := open_bs
  go_enter Try.func7, Try.ntmps7
  go_wp2_with fail
  refine (one_open _).mono ?_
  rintro e w1 ⟨rfl, rfl⟩
  go_wp2_with fail
  refine (one_bs _).mono ?_
  rintro e w2 ⟨rfl, rfl⟩
  go_wp2
  go_ret3
  exact ⟨rfl, ((Below.refl _ _).alloc (Nat.le_refl _) _).alloc (by simp) _⟩

set_option maxRecDepth 100000 in
theorem zzb_small (s : ByteArray) (start : Int) (esc : Bool) (w : World) (hsz : s.size ≤ 1048576) : Calls Try.prog 6 #[.string s, .int .i64 start, .bool esc] w fun e w' => e = .returned (.bool true) ∧ w' = w := by
  go_enter Try.func6, Try.ntmps6
  go_wp2
  go_ret
  exact ⟨rfl, rfl⟩

set_option maxRecDepth 100000 in
theorem zzb_big (s : ByteArray) (start : Int) (esc : Bool) (w : World) (hs : s.size ≤ maxLen) (hsz : ¬ s.size ≤ 1048576) : Calls Try.prog 6 #[.string s, .int .i64 start, .bool esc] w fun e w' => e = .returned (.bool false) ∧ w' = w := by
  unfold maxLen at hs
  go_enter Try.func6, Try.ntmps6
  go_wp2
  go_ret
  exact ⟨rfl, rfl⟩

set_option maxRecDepth 100000 in
theorem law_big (s : ByteArray) (start : Int) (esc : Bool) (w : World) (hs : s.size ≤ maxLen) (hsz : ¬ s.size ≤ 1048576) : Calls Try.prog 3 #[.string s, .int .i64 start, .bool esc] w fun e w' => e = .returned (.bool true) ∧ Below w.heap.size w w' := by
  go_enter Try.func3, Try.ntmps3
  go_wp2_with (go_at_call 6; refine (zzb_big s start esc _ hs hsz).mono ?_; rintro e w1 ⟨rfl, rfl⟩)
  go_ret
  exact ⟨rfl, Below.refl _ _⟩

set_option maxRecDepth 100000 in
theorem law_out (s : ByteArray) (start : Int) (esc : Bool) (w : World) (hsz : s.size ≤ 1048576) (ho : start < 0 ∨ (s.size : Int) ≤ start) : Calls Try.prog 3 #[.string s, .int .i64 start, .bool esc] w fun e w' => e = .returned (.bool true) ∧ Below w.heap.size w w' := by
  by_cases h : start < 0
  · clear ho
    go_enter Try.func3, Try.ntmps3
    go_wp2_with (go_at_call 6; refine (zzb_small s start esc _ hsz).mono ?_; rintro e w1 ⟨rfl, rfl⟩)
    go_ret
    exact ⟨rfl, Below.refl _ _⟩
  · have h2 : (s.size : Int) ≤ start := by omega
    clear ho
    go_enter Try.func3, Try.ntmps3
    go_wp2_with (go_at_call 6; refine (zzb_small s start esc _ hsz).mono ?_; rintro e w1 ⟨rfl, rfl⟩)
    go_ret
    exact ⟨rfl, Below.refl _ _⟩

theorem keepsA_of {esc : Bool} {s : ByteArray} {R : Int × Int} {k : Nat} (h : Keeps esc s R k) : KeepsA esc s R 0 0 k := by
  unfold Keeps at h
  unfold KeepsA
  rw [h, am_is_ce esc _ _ (Nat.le_refl _)]

/-- The two calls of the law, at a known answer. -/
theorem both (s : ByteArray) (n : Nat) (esc : Bool) (hsz : s.size ≤ 1048576) (hn : n ≤ 1048576) (a b : Int) (hR : Keeps esc s (a, b) (n + 1)) (m : ByteArray) (hm : msg b = m) :
    (∀ w, Calls Try.prog 8 #[.string s, .int .i64 (n : Int), .bool esc] w fun e w' => e = .returned (.tuple #[.int .i64 a, .string m]) ∧ w' = w) ∧
    (∀ w, Calls Try.prog 9 #[.string s, .int .i64 (n : Int), .bool esc] w fun e w' => e = .returned (.tuple #[.int .i64 a, .int .i64 b]) ∧ w' = w) := by
  subst hm
  exact ⟨fun w => zend_any s n esc w hsz hn (a, b) hR, fun w => model_any s n esc w hsz hn (a, b) (keepsA_of hR)⟩

set_option maxRecDepth 100000 in
theorem law_closed (s : ByteArray) (n : Nat) (esc : Bool) (w : World) (hsz : s.size ≤ 1048576) (hn : n < s.size) (a : Int) (hR : Keeps esc s (a, 0) (n + 1)) : Calls Try.prog 3 #[.string s, .int .i64 (n : Int), .bool esc] w fun e w' => e = .returned (.bool true) ∧ Below w.heap.size w w' := by
  obtain ⟨k1, k2⟩ := both s n esc hsz (by omega) _ _ hR { data := #[] } rfl
  have K1 := hide k1
  have K2 := hide k2
  clear k1 k2
  have i0 : (0 : Int) ≤ (n : Int) := by omega
  have i1 : (n : Int) < (s.size : Int) := by omega
  go_enter Try.func3, Try.ntmps3
  go_wp2_with (first
    | (go_at_call 6; refine (zzb_small s n esc _ hsz).mono ?_; rintro e w1 ⟨rfl, rfl⟩)
    | (go_at_call 7; refine (msgs_any _).mono ?_; rintro e w2 ⟨rfl, hb⟩)
    | (go_at_call 8; refine (K1.out _).mono ?_; rintro e w3 ⟨rfl, rfl⟩)
    | (go_at_call 9; refine (K2.out _).mono ?_; rintro e w4 ⟨rfl, rfl⟩))
  go_ret
  exact ⟨rfl, hb⟩

set_option maxRecDepth 100000 in
theorem law_plain (s : ByteArray) (n : Nat) (esc : Bool) (w : World) (hsz : s.size ≤ 1048576) (hn : n < s.size) (hR : Keeps esc s (0, 1) (n + 1)) : Calls Try.prog 3 #[.string s, .int .i64 (n : Int), .bool esc] w fun e w' => e = .returned (.bool true) ∧ Below w.heap.size w w' := by
  obtain ⟨k1, k2⟩ := both s n esc hsz (by omega) _ _ hR BS rfl
  have K1 := hide k1
  have K2 := hide k2
  clear k1 k2
  have i0 : (0 : Int) ≤ (n : Int) := by omega
  have i1 : (n : Int) < (s.size : Int) := by omega
  go_enter Try.func3, Try.ntmps3
  go_wp2_with (first
    | (go_at_call 6; refine (zzb_small s n esc _ hsz).mono ?_; rintro e w1 ⟨rfl, rfl⟩)
    | (go_at_call 7; refine (msgs_any _).mono ?_; rintro e w2 ⟨rfl, hb⟩)
    | (go_at_call 8; refine (K1.out _).mono ?_; rintro e w3 ⟨rfl, rfl⟩)
    | (go_at_call 9; refine (K2.out _).mono ?_; rintro e w4 ⟨rfl, rfl⟩))
  go_ret
  exact ⟨rfl, hb⟩

set_option maxRecDepth 100000 in
theorem law_open (s : ByteArray) (n : Nat) (esc : Bool) (w : World) (hsz : s.size ≤ 1048576) (hn : n < s.size) (hR : Keeps esc s (0, 2) (n + 1)) : Calls Try.prog 3 #[.string s, .int .i64 (n : Int), .bool esc] w fun e w' => e = .returned (.bool true) ∧ Below w.heap.size w w' := by
  obtain ⟨k1, k2⟩ := both s n esc hsz (by omega) _ _ hR OPEN rfl
  have K1 := hide k1
  have K2 := hide k2
  clear k1 k2
  have i0 : (0 : Int) ≤ (n : Int) := by omega
  have i1 : (n : Int) < (s.size : Int) := by omega
  go_enter Try.func3, Try.ntmps3
  go_wp2_with (first
    | (go_at_call 6; refine (zzb_small s n esc _ hsz).mono ?_; rintro e w1 ⟨rfl, rfl⟩)
    | (go_at_call 7; refine (msgs_any _).mono ?_; rintro e w2 ⟨rfl, hb⟩)
    | (go_at_call 8; refine (K1.out _).mono ?_; rintro e w3 ⟨rfl, rfl⟩)
    | (go_at_call 9; refine (K2.out _).mono ?_; rintro e w4 ⟨rfl, rfl⟩))
  go_ret
  exact ⟨rfl, hb⟩

/-- FnConstantEndMatchesAutomaton: whatever the arguments: true; nothing that was there has turned. -/
theorem law_any (s : ByteArray) (start : Int) (esc : Bool) (w : World) (hs : s.size ≤ maxLen) : Calls Try.prog 3 #[.string s, .int .i64 start, .bool esc] w fun e w' => e = .returned (.bool true) ∧ Below w.heap.size w w' := by
  by_cases hsz : s.size ≤ 1048576
  · by_cases ho : start < 0 ∨ (s.size : Int) ≤ start
    · exact law_out s start esc w hsz ho
    · obtain ⟨n, rfl⟩ := Int.eq_ofNat_of_zero_le (show 0 ≤ start by omega)
      have hn : n < s.size := by omega
      rcases ce_kinds esc _ (s.data.toList.drop (n + 1)) (Nat.le_refl _) (n + 1) with ⟨e, h⟩ | h | h
      · exact law_closed s n esc w hsz hn e h.symm
      · exact law_plain s n esc w hsz hn h.symm
      · exact law_open s n esc w hsz hn h.symm
  · exact law_big s start esc w hs hsz

end Go.Proofs.Qxb6600895a
