/-
  THE WALK OF FnParseDigitsSpec. Own work.
-/
import Derived.Test.Qxb6603033aVals
namespace Go.Proofs.Qxb6603033a
open Go.RowKit

theorem at_list (s : ByteArray) (k : Nat) (h : k < s.size) : s.data.toList[k]'(by simpa using h) = s[k] := by
  simp
  rfl

/-- The first k bytes are digits. -/
def goodTo (s : ByteArray) (k : Nat) : Prop := (s.data.toList.take k).all isD = true

theorem goodTo_step (s : ByteArray) (k : Nat) (h : k < s.size) (h1 : goodTo s k) (ha : 48 ≤ (s[k].toNat : Int)) (hb : (s[k].toNat : Int) ≤ 57) : goodTo s (k + 1) := by
  refine all_take_step s.data.toList k (by simpa using h) h1 ?_
  rw [at_list s k h, isD_iff]
  omega

set_option maxRecDepth 100000 in
theorem zzb_small (s : ByteArray) (ceil : Int) (w : World) (hsz : s.size ≤ 1048576) : Calls Try.prog 14 #[.string s, .int .i64 ceil] w fun e w' => e = .returned (.bool true) ∧ w' = w := by
  go_enter Try.func14, Try.ntmps14
  go_wp2
  go_ret
  exact ⟨rfl, rfl⟩

set_option maxRecDepth 100000 in
theorem zzb_big (s : ByteArray) (ceil : Int) (w : World) (hs : s.size ≤ maxLen) (hsz : ¬ s.size ≤ 1048576) : Calls Try.prog 14 #[.string s, .int .i64 ceil] w fun e w' => e = .returned (.bool false) ∧ w' = w := by
  unfold maxLen at hs
  go_enter Try.func14, Try.ntmps14
  go_wp2
  go_ret
  exact ⟨rfl, rfl⟩

set_option maxRecDepth 100000 in
theorem spec_big (s : ByteArray) (ceil : Int) (w : World) (hs : s.size ≤ maxLen) (hsz : ¬ s.size ≤ 1048576) : Calls Try.prog 5 #[.string s, .int .i64 ceil] w fun e w' => e = .returned (.bool true) ∧ Below w.heap.size w w' := by
  go_enter Try.func5, Try.ntmps5
  go_wp2_with (go_at_call 14; refine (zzb_big s ceil _ hs hsz).mono ?_; rintro e w1 ⟨rfl, rfl⟩)
  go_ret
  exact ⟨rfl, Below.refl _ _⟩

set_option maxRecDepth 100000 in
theorem spec_out (s : ByteArray) (ceil : Int) (w : World) (hsz : s.size ≤ 1048576) (hc : ceil < 0 ∨ 922337203685477580 ≤ ceil) : Calls Try.prog 5 #[.string s, .int .i64 ceil] w fun e w' => e = .returned (.bool true) ∧ Below w.heap.size w w' := by
  rcases hc with hc | hc
  · go_enter Try.func5, Try.ntmps5
    go_wp2_with (go_at_call 14; refine (zzb_small s ceil _ hsz).mono ?_; rintro e w1 ⟨rfl, rfl⟩)
    go_ret
    exact ⟨rfl, Below.refl _ _⟩
  · have hc0 : ¬ ceil < 0 := by omega
    go_enter Try.func5, Try.ntmps5
    go_wp2_with (go_at_call 14; refine (zzb_small s ceil _ hsz).mono ?_; rintro e w1 ⟨rfl, rfl⟩)
    go_ret
    exact ⟨rfl, Below.refl _ _⟩

set_option maxRecDepth 100000 in
theorem spec_empty (s : ByteArray) (ceil : Int) (w : World) (hsz : s.size = 0) (h0 : 0 ≤ ceil) (h1 : ceil ≤ 922337203685477579) : Calls Try.prog 5 #[.string s, .int .i64 ceil] w fun e w' => e = .returned (.bool true) ∧ Below w.heap.size w w' := by
  have hl : s.data.toList = [] := List.eq_nil_of_length_eq_zero (by simpa using hsz)
  have HP := hide (zparse_any s ceil)
  rw [hl] at HP
  have e1 : pdN [] ceil = 0 := rfl
  have e2 : pdOk [] = false := rfl
  rw [e1, e2] at HP
  clear hl e1 e2
  have hle : s.size ≤ 1048576 := by omega
  go_enter Try.func5, Try.ntmps5
  go_wp2_with (first
    | (go_at_call 14; refine (zzb_small s ceil _ hle).mono ?_; rintro e w1 ⟨rfl, rfl⟩)
    | (go_at_call 15; refine (HP.out _ hle h0 h1).mono ?_; rintro e w2 ⟨rfl, hb⟩))
  go_ret
  exact ⟨rfl, hb⟩

set_option maxRecDepth 100000 in
set_option maxHeartbeats 1000000 in
theorem spec_bad (s : ByteArray) (ceil : Int) (w : World) (hle : s.size ≤ 1048576) (hne : 0 < s.size) (h0 : 0 ≤ ceil) (h1 : ceil ≤ 922337203685477579) (hbad : s.data.toList.all isD = false) : Calls Try.prog 5 #[.string s, .int .i64 ceil] w fun e w' => e = .returned (.bool true) ∧ Below w.heap.size w w' := by
  have HP := hide (zparse_any s ceil)
  have e0 : s.data.toList.isEmpty = false := by
    have hlen : s.data.toList.length = s.size := by simp
    cases h : s.data.toList with
    | nil =>
      rw [h] at hlen
      simp at hlen
      omega
    | cons a l => rfl
  have e1 : pdN s.data.toList ceil = 0 := by unfold pdN; rw [e0, hbad]; rfl
  have e2 : pdOk s.data.toList = false := by unfold pdOk; rw [hbad]; simp
  rw [e1, e2] at HP
  have HB := hide hbad
  clear e0 e1 e2 hbad
  go_enter Try.func5, Try.ntmps5
  go_wp2_with (first
    | (go_at_call 14; refine (zzb_small s ceil _ hle).mono ?_; rintro e w1 ⟨rfl, rfl⟩)
    | (go_at_call 15; refine (HP.out _ hle h0 h1).mono ?_; rintro e w2 ⟨rfl, hb⟩))
  go_loop [7] (fun i => ∃ k : Nat, k ≤ s.size ∧ i = .int .i64 k ∧ goodTo s k) (fun i => s.size - (intOf i).toNat)
  case atStart => exact ⟨0, Nat.zero_le _, rfl, by simp [goodTo]⟩
  case round =>
    obtain ⟨k, hk, rfl, hall⟩ := hrel
    by_cases hlt : k < s.size
    · go_wp2
      · go_ret
        exact ⟨rfl, hb⟩
      · go_round
        case rel => exact ⟨k + 1, by omega, by go_num, goodTo_step s k hlt hall (by omega) (by omega)⟩
        case measure => simp [intOf]; omega
      · go_ret
        exact ⟨rfl, hb⟩
    · exfalso
      have e : s.data.toList.take k = s.data.toList := List.take_of_length_le (by simp; omega)
      unfold goodTo at hall
      rw [e, HB.out] at hall
      cases hall

end Go.Proofs.Qxb6603033a
