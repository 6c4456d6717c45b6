/-
  THE WALKS OF b1ModelConstantEnd, ZZconstantEnd, b1Messages, zzBytes. Own work.
-/
import Derived.Test.Qxb6600895aEnd
namespace Go.Proofs.Qxb6600895a
open Go.RowKit

/-- The answer R is what the automaton still finds from k on, in state st, the last quote at p. -/
def KeepsA (esc : Bool) (s : ByteArray) (R : Int × Int) (st p : Int) (k : Nat) : Prop := R = am esc st p k (s.data.toList.drop k)

theorem ka_end2 {esc : Bool} {s : ByteArray} {R : Int × Int} {p : Int} {k : Nat} (h : KeepsA esc s R 2 p k) (hk : s.size ≤ k) : R = (p, 0) := by
  unfold KeepsA at h
  rw [h, drop_end s k hk]
  rfl

theorem ka_end {esc : Bool} {s : ByteArray} {R : Int × Int} {st p : Int} {k : Nat} (h : KeepsA esc s R st p k) (hk : s.size ≤ k) (hst : st ≠ 2) : R = (0, 2) := by
  unfold KeepsA at h
  rw [h, drop_end s k hk, am, if_neg hst]

theorem ka_1 {esc : Bool} {s : ByteArray} {R : Int × Int} {p : Int} {k : Nat} (h : KeepsA esc s R 1 p k) (hk : k < s.size) : KeepsA esc s R 0 p (k + 1) := by
  unfold KeepsA at *
  rw [h, drop_at s k hk, am, if_pos rfl]

theorem ka_2q {esc : Bool} {s : ByteArray} {R : Int × Int} {p : Int} {k : Nat} (h : KeepsA esc s R 2 p k) (hk : k < s.size) (h39 : ((s[k].toNat : Int) == 39) = true) : KeepsA esc s R 0 p (k + 1) := by
  have e : s[k] = 39 := byte_yes (n := 39) (by decide) h39
  unfold KeepsA at *
  rw [h, drop_at s k hk, am, if_neg (by decide), if_pos rfl, if_pos e]

theorem ka_2c {esc : Bool} {s : ByteArray} {R : Int × Int} {p : Int} {k : Nat} (h : KeepsA esc s R 2 p k) (hk : k < s.size) (h39 : ((s[k].toNat : Int) == 39) = false) : R = (p, 0) := by
  have e : ¬ s[k] = 39 := byte_no (n := 39) (by decide) h39
  unfold KeepsA at h
  rw [h, drop_at s k hk, am, if_neg (by decide), if_pos rfl, if_neg e]

theorem ka_plain {s : ByteArray} {R : Int × Int} {p : Int} {k : Nat} (h : KeepsA false s R 0 p k) (hk : k < s.size) (h92 : ((s[k].toNat : Int) == 92) = true) : R = (0, 1) := by
  have e : s[k] = 92 := byte_yes (n := 92) (by decide) h92
  unfold KeepsA at h
  rw [h, drop_at s k hk, am, if_neg (by decide), if_neg (by decide), if_pos e]
  rfl

theorem ka_esc {s : ByteArray} {R : Int × Int} {p : Int} {k : Nat} (h : KeepsA true s R 0 p k) (hk : k < s.size) (h92 : ((s[k].toNat : Int) == 92) = true) : KeepsA true s R 1 p (k + 1) := by
  have e : s[k] = 92 := byte_yes (n := 92) (by decide) h92
  unfold KeepsA at *
  rw [h, drop_at s k hk, am, if_neg (by decide), if_neg (by decide), if_pos e, if_pos rfl]

theorem ka_quote {esc : Bool} {s : ByteArray} {R : Int × Int} {p : Int} {k : Nat} (h : KeepsA esc s R 0 p k) (hk : k < s.size) (h92 : ((s[k].toNat : Int) == 92) = false) (h39 : ((s[k].toNat : Int) == 39) = true) : KeepsA esc s R 2 (k : Int) (k + 1) := by
  have e : ¬ s[k] = 92 := byte_no (n := 92) (by decide) h92
  have e2 : s[k] = 39 := byte_yes (n := 39) (by decide) h39
  unfold KeepsA at *
  rw [h, drop_at s k hk, am, if_neg (by decide), if_neg (by decide), if_neg e, if_pos e2]

theorem ka_other {esc : Bool} {s : ByteArray} {R : Int × Int} {p : Int} {k : Nat} (h : KeepsA esc s R 0 p k) (hk : k < s.size) (h92 : ((s[k].toNat : Int) == 92) = false) (h39 : ((s[k].toNat : Int) == 39) = false) : KeepsA esc s R 0 p (k + 1) := by
  have e : ¬ s[k] = 92 := byte_no (n := 92) (by decide) h92
  have e2 : ¬ s[k] = 39 := byte_no (n := 39) (by decide) h39
  unfold KeepsA at *
  rw [h, drop_at s k hk, am, if_neg (by decide), if_neg (by decide), if_neg e, if_neg e2]

/-- What the model hands back. -/
def ansM (R : Int × Int) : Value := .tuple #[.int .i64 R.1, .int .i64 R.2]

theorem ansM_is {R : Int × Int} {a b : Int} (h : R = (a, b)) : ansM R = .tuple #[.int .i64 a, .int .i64 b] := by subst h; rfl

set_option maxRecDepth 100000 in
set_option maxHeartbeats 1000000 in
theorem model_any (s : ByteArray) (start : Nat) (esc : Bool) (w : World) (hsz : s.size ≤ 1048576) (hst : start ≤ 1048576) (R : Int × Int) (hR : KeepsA esc s R 0 0 (start + 1)) :
    Calls Try.prog 9 #[.string s, .int .i64 (start : Int), .bool esc] w fun e w' => e = .returned (ansM R) ∧ w' = w := by
  go_enter Try.func9, Try.ntmps9
  go_wp2
  go_loop [8, 9, 10] (fun st pd i => ∃ (k : Nat) (t p : Int), start + 1 ≤ k ∧ k ≤ 1048577 ∧ i = .int .i64 k ∧ st = .int .i64 t ∧ pd = .int .i64 p ∧ (t = 0 ∨ t = 1 ∨ t = 2) ∧ KeepsA esc s R t p k) (fun _ _ i => 1048578 - (intOf i).toNat)
  case atStart => exact ⟨start + 1, 0, 0, by omega, by omega, by go_num, rfl, rfl, Or.inl rfl, hR⟩
  case round =>
    obtain ⟨k, t, p, hk0, hk, rfl, rfl, rfl, ht, hK⟩ := hrel
    by_cases hlt : k < s.size
    · rcases ht with rfl | rfl | rfl
      · cases h92 : ((s[k].toNat : Int) == 92)
        · cases h39 : ((s[k].toNat : Int) == 39)
          · have HN := hide (ka_other hK hlt h92 h39)
            go_wp2
            go_round
            case rel => exact ⟨k + 1, 0, p, by omega, by omega, by go_num, rfl, rfl, Or.inl rfl, HN.out⟩
            case measure => simp [intOf]; omega
          · have HN := hide (ka_quote hK hlt h92 h39)
            go_wp2
            go_round
            case rel => exact ⟨k + 1, 2, (k : Int), by omega, by omega, by go_num, rfl, rfl, Or.inr (Or.inr rfl), HN.out⟩
            case measure => simp [intOf]; omega
        · cases esc
          · have HA := hide (ansM_is (ka_plain hK hlt h92))
            go_wp2
            go_ret2
            exact ⟨by rw [HA.out]; rfl, rfl⟩
          · have HN := hide (ka_esc hK hlt h92)
            go_wp2
            go_round
            case rel => exact ⟨k + 1, 1, p, by omega, by omega, by go_num, rfl, rfl, Or.inr (Or.inl rfl), HN.out⟩
            case measure => simp [intOf]; omega
      · have HN := hide (ka_1 hK hlt)
        go_wp2
        go_round
        case rel => exact ⟨k + 1, 0, p, by omega, by omega, by go_num, rfl, rfl, Or.inl rfl, HN.out⟩
        case measure => simp [intOf]; omega
      · cases h39 : ((s[k].toNat : Int) == 39)
        · have HA := hide (ansM_is (ka_2c hK hlt h39))
          go_wp2
          go_ret2
          exact ⟨by rw [HA.out]; rfl, rfl⟩
        · have HN := hide (ka_2q hK hlt h39)
          go_wp2
          go_round
          case rel => exact ⟨k + 1, 0, p, by omega, by omega, by go_num, rfl, rfl, Or.inl rfl, HN.out⟩
          case measure => simp [intOf]; omega
    · rcases ht with rfl | rfl | rfl
      · have HA := hide (ansM_is (ka_end hK (by omega) (by decide)))
        go_wp2
        go_ret2
        exact ⟨by rw [HA.out]; rfl, rfl⟩
      · have HA := hide (ansM_is (ka_end hK (by omega) (by decide)))
        go_wp2
        go_ret2
        exact ⟨by rw [HA.out]; rfl, rfl⟩
      · have HA := hide (ansM_is (ka_end2 hK (by omega)))
        go_wp2
        go_ret2
        exact ⟨by rw [HA.out]; rfl, rfl⟩

set_option maxRecDepth 100000 in
theorem zend_any (s : ByteArray) (start : Nat) (esc : Bool) (w : World) (hsz : s.size ≤ 1048576) (hst : start ≤ 1048576) (R : Int × Int) (hR : Keeps esc s R (start + 1)) :
    Calls Try.prog 8 #[.string s, .int .i64 (start : Int), .bool esc] w fun e w' => e = .returned (.tuple #[.int .i64 R.1, .string (msg R.2)]) ∧ w' = w := by
  have HA := hide (show ans R = .tuple #[.int .i64 R.1, .string (msg R.2)] from rfl)
  generalize R.1 = r1 at *
  generalize msg R.2 = r2 at *
  go_enter Try.func8, Try.ntmps8
  go_wp2_with (go_at_call 13; refine (end_any s start esc _ hsz hst R hR).mono ?_; rintro e w1 ⟨rfl, rfl⟩; rw [HA.out])
  go_ret2
  exact ⟨rfl, rfl⟩

end Go.Proofs.Qxb6600895a
