/-
  THE WALKS OF constantEnd, ZZconstantEnd, b1ModelConstantEnd. Own work.
-/
import Derived.Test.Qxb6600895aPlain
namespace Go.Proofs.Qxb6600895a
open Go.RowKit

theorem drop_at (s : ByteArray) (k : Nat) (h : k < s.size) : s.data.toList.drop k = s[k] :: s.data.toList.drop (k + 1) := by
  rw [List.drop_eq_getElem_cons (by simpa using h)]
  congr 1

theorem drop_end (s : ByteArray) (k : Nat) (h : s.size ≤ k) : s.data.toList.drop k = [] := List.drop_eq_nil_of_le (by simpa using h)

theorem byte_yes {c : UInt8} {n : Nat} (hn : n < 256) (h : ((c.toNat : Int) == (n : Int)) = true) : c = UInt8.ofNat n := by
  have h1 : (c.toNat : Int) = (n : Int) := by simpa using h
  apply UInt8.toNat_inj.1
  rw [UInt8.toNat_ofNat_of_lt' (by have : UInt8.size = 256 := rfl; omega)]
  omega

theorem byte_no {c : UInt8} {n : Nat} (hn : n < 256) (h : ((c.toNat : Int) == (n : Int)) = false) : c ≠ UInt8.ofNat n := by
  intro e
  subst e
  rw [UInt8.toNat_ofNat_of_lt' (by have : UInt8.size = 256 := rfl; omega)] at h
  simp at h

/-- The answer R is what is still to be found from k on. -/
def Keeps (esc : Bool) (s : ByteArray) (R : Int × Int) (k : Nat) : Prop := R = ce esc k (s.data.toList.drop k)

theorem keeps_end {esc : Bool} {s : ByteArray} {R : Int × Int} {k : Nat} (h : Keeps esc s R k) (hk : s.size ≤ k) : R = (0, 2) := by
  unfold Keeps at h
  rw [h, drop_end s k hk]
  rfl

theorem keeps_plain {s : ByteArray} {R : Int × Int} {k : Nat} (h : Keeps false s R k) (hk : k < s.size) (h92 : ((s[k].toNat : Int) == 92) = true) : R = (0, 1) := by
  have e := byte_yes (n := 92) (by decide) h92
  unfold Keeps at h
  rw [h, drop_at s k hk, e]
  cases s.data.toList.drop (k + 1) <;> simp [ce]

theorem keeps_skip {s : ByteArray} {R : Int × Int} {k : Nat} (h : Keeps true s R k) (hk : k < s.size) (h92 : ((s[k].toNat : Int) == 92) = true) : Keeps true s R (k + 2) := by
  have e := byte_yes (n := 92) (by decide) h92
  unfold Keeps at *
  rw [h, drop_at s k hk, e]
  by_cases h2 : k + 1 < s.size
  · rw [drop_at s (k + 1) h2]
    simp [ce]
  · rw [drop_end s (k + 1) (by omega), drop_end s (k + 2) (by omega)]
    simp [ce]

theorem keeps_double {esc : Bool} {s : ByteArray} {R : Int × Int} {k : Nat} (h : Keeps esc s R k) (hk : k + 1 < s.size) (h39 : ((s[k].toNat : Int) == 39) = true) (h2 : ((s[k + 1].toNat : Int) == 39) = true) : Keeps esc s R (k + 2) := by
  have e := byte_yes (n := 39) (by decide) h39
  have e2 := byte_yes (n := 39) (by decide) h2
  unfold Keeps at *
  rw [h, drop_at s k (by omega), e, drop_at s (k + 1) hk, e2]
  simp [ce]

theorem keeps_close {esc : Bool} {s : ByteArray} {R : Int × Int} {k : Nat} (h : Keeps esc s R k) (hk : k < s.size) (h39 : ((s[k].toNat : Int) == 39) = true) (h2 : ∀ (h3 : k + 1 < s.size), ((s[k + 1].toNat : Int) == 39) = false) : R = ((k : Int), 0) := by
  have e := byte_yes (n := 39) (by decide) h39
  unfold Keeps at h
  rw [h, drop_at s k hk, e]
  by_cases h3 : k + 1 < s.size
  · have e2 := byte_no (n := 39) (by decide) (h2 h3)
    rw [drop_at s (k + 1) h3]
    have e3 : ¬ (s[k + 1] = 39) := e2
    simp [ce, e3]
  · rw [drop_end s (k + 1) (by omega)]
    simp [ce]

theorem keeps_other {esc : Bool} {s : ByteArray} {R : Int × Int} {k : Nat} (h : Keeps esc s R k) (hk : k < s.size) (h92 : ((s[k].toNat : Int) == 92) = false) (h39 : ((s[k].toNat : Int) == 39) = false) : Keeps esc s R (k + 1) := by
  have e1 : ¬ (s[k] = 92) := byte_no (n := 92) (by decide) h92
  have e2 : ¬ (s[k] = 39) := byte_no (n := 39) (by decide) h39
  unfold Keeps at *
  rw [h, drop_at s k hk]
  cases hd : s.data.toList.drop (k + 1) with
  | nil => simp [ce, e1, e2]
  | cons d l => simp [ce, e1, e2]

/-- What constantEnd hands back. -/
def ans (R : Int × Int) : Value := .tuple #[.int .i64 R.1, .string (msg R.2)]

theorem ans_open {R : Int × Int} (h : R = (0, 2)) : ans R = .tuple #[.int .i64 0, .string OPEN] := by subst h; rfl
theorem ans_bs {R : Int × Int} (h : R = (0, 1)) : ans R = .tuple #[.int .i64 0, .string BS] := by subst h; rfl
theorem ans_close {R : Int × Int} {k : Int} (h : R = (k, 0)) : ans R = .tuple #[.int .i64 k, .string { data := #[] }] := by subst h; rfl

set_option maxRecDepth 100000 in
set_option maxHeartbeats 1000000 in
theorem end_any (s : ByteArray) (start : Nat) (esc : Bool) (w : World) (hsz : s.size ≤ 1048576) (hst : start ≤ 1048576) (R : Int × Int) (hR : Keeps esc s R (start + 1)) :
    Calls Try.prog 13 #[.string s, .int .i64 (start : Int), .bool esc] w fun e w' => e = .returned (ans R) ∧ w' = w := by
  go_enter Try.func13, Try.ntmps13
  go_wp2
  go_loop [8] (fun i => ∃ k : Nat, start + 1 ≤ k ∧ k ≤ 1048578 ∧ i = .int .i64 k ∧ Keeps esc s R k) (fun i => 1048579 - (intOf i).toNat)
  case atStart => exact ⟨start + 1, by omega, by omega, by go_num, hR⟩
  case round =>
    obtain ⟨k, hk0, hk, rfl, hK⟩ := hrel
    by_cases hlt : k < s.size
    · cases h92 : ((s[k].toNat : Int) == 92)
      · cases h39 : ((s[k].toNat : Int) == 39)
        · have HN := hide (keeps_other hK hlt h92 h39)
          go_wp2
          go_round
          case rel => exact ⟨k + 1, by omega, by omega, by go_num, HN.out⟩
          case measure => simp [intOf]; omega
        · by_cases hl2 : k + 1 < s.size
          · cases h2 : ((s[k + 1].toNat : Int) == 39)
            · have HA := hide (ans_close (keeps_close hK hlt h39 (fun _ => h2)))
              go_wp2
              go_ret2
              exact ⟨by rw [HA.out]; rfl, rfl⟩
            · have HN := hide (keeps_double hK hl2 h39 h2)
              go_wp2
              go_round
              case rel => exact ⟨k + 2, by omega, by omega, by go_num, HN.out⟩
              case measure => simp [intOf]; omega
          · have HA := hide (ans_close (keeps_close hK hlt h39 (fun h => absurd h hl2)))
            go_wp2
            go_ret2
            exact ⟨by rw [HA.out]; rfl, rfl⟩
      · cases esc
        · have HA := hide (ans_bs (keeps_plain hK hlt h92))
          go_wp2
          go_ret2
          exact ⟨by rw [HA.out]; rfl, rfl⟩
        · have HN := hide (keeps_skip hK hlt h92)
          go_wp2
          go_round
          case rel => exact ⟨k + 2, by omega, by omega, by go_num, HN.out⟩
          case measure => simp [intOf]; omega
    · have HA := hide (ans_open (keeps_end hK (by omega)))
      go_wp2
      go_ret2
      exact ⟨by rw [HA.out]; rfl, rfl⟩

end Go.Proofs.Qxb6600895a
