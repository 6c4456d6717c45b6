/-
  PLAIN LAWS: where a string constant ends, by the two-byte look and by the automaton; the two texts. Own work.
-/
import Derived.Test.Qxb6600895aRows
import Derived.WalkKit
import Derived.ProofKit
import Derived.Laws.IdiomStrings
namespace Go.Proofs.Qxb6600895a
open Go.RowKit

theorem hide {p : Prop} (h : p) : Hid p := h

/-- Where the constant ends, the bytes from i on being l: (the closing quote's index, 0) closed, (0, 1) a backslash in a plain constant, (0, 2) left open. -/
def ce (esc : Bool) : Nat → List UInt8 → Int × Int
  | _, [] => (0, 2)
  | i, [c] => if c = 92 then (if esc then (0, 2) else (0, 1)) else if c = 39 then ((i : Int), 0) else (0, 2)
  | i, c :: d :: l => if c = 92 then (if esc then ce esc (i + 2) l else (0, 1)) else if c = 39 then (if d = 39 then ce esc (i + 2) l else ((i : Int), 0)) else ce esc (i + 1) (d :: l)

/-- The automaton: state st, the last quote at p. -/
def am (esc : Bool) : Int → Int → Nat → List UInt8 → Int × Int
  | st, p, _, [] => if st = 2 then (p, 0) else (0, 2)
  | st, p, i, c :: l =>
    if st = 1 then am esc 0 p (i + 1) l
    else if st = 2 then (if c = 39 then am esc 0 p (i + 1) l else (p, 0))
    else if c = 92 then (if esc then am esc 1 p (i + 1) l else (0, 1))
    else if c = 39 then am esc 2 (i : Int) (i + 1) l
    else am esc st p (i + 1) l

/-- The two say the same. -/
theorem am_is_ce (esc : Bool) : ∀ (n : Nat) (l : List UInt8), l.length ≤ n → ∀ (p : Int) (i : Nat), am esc 0 p i l = ce esc i l
  | _, [], _, p, i => by simp [am, ce]
  | 0, c :: l, h, _, _ => by simp at h
  | n + 1, [c], h, p, i => by
    unfold am ce
    by_cases h92 : c = 92
    · subst h92
      cases esc <;> simp [am]
    · by_cases h39 : c = 39
      · subst h39; simp [am]
      · simp [h92, h39, am]
  | n + 1, c :: d :: l, h, p, i => by
    have hl : l.length ≤ n := by simp at h; omega
    have hl2 : (d :: l).length ≤ n := by simpa using h
    unfold ce
    by_cases h92 : c = 92
    · subst h92
      cases esc
      · simp [am]
      · have := am_is_ce true n l hl p (i + 2)
        simp [am, this]
    · by_cases h39 : c = 39
      · subst h39
        by_cases hd : d = 39
        · subst hd
          have := am_is_ce esc n l hl (i : Int) (i + 2)
          simp [am, this]
        · simp [am, hd]
      · have := am_is_ce esc n (d :: l) hl2 p (i + 1)
        rw [am, if_neg (by decide), if_neg (by decide), if_neg h92, if_neg h39, this, if_neg h92, if_neg h39]

/-- The kind is one of three; where it is not 0 the index is 0. -/
theorem ce_kinds (esc : Bool) : ∀ (n : Nat) (l : List UInt8), l.length ≤ n → ∀ (i : Nat), (∃ e, ce esc i l = (e, 0)) ∨ ce esc i l = (0, 1) ∨ ce esc i l = (0, 2)
  | _, [], _, i => by simp [ce]
  | 0, c :: l, h, _ => by simp at h
  | n + 1, [c], h, i => by
    unfold ce
    by_cases h92 : c = 92
    · subst h92; cases esc <;> simp
    · by_cases h39 : c = 39
      · subst h39; simp
      · simp [h92, h39]
  | n + 1, c :: d :: l, h, i => by
    have hl : l.length ≤ n := by simp at h; omega
    have hl2 : (d :: l).length ≤ n := by simpa using h
    unfold ce
    by_cases h92 : c = 92
    · subst h92
      cases esc
      · simp
      · simpa using ce_kinds true n l hl (i + 2)
    · by_cases h39 : c = 39
      · subst h39
        by_cases hd : d = 39
        · subst hd
          simpa using ce_kinds esc n l hl (i + 2)
        · simp [hd]
      · rw [if_neg h92, if_neg h39]
        exact ce_kinds esc n (d :: l) hl2 (i + 1)

/-- The text for a constant left open. -/
def OPEN : ByteArray := { data := #[108, 101, 97, 118, 101, 115, 32, 97, 32, 115, 116, 114, 105, 110, 103, 32, 99, 111, 110, 115, 116, 97, 110, 116, 32, 111, 112, 101, 110] }

/-- The text for a backslash in a plain constant. -/
def BS : ByteArray := { data := (([104, 111, 108, 100, 115, 32, 97, 32, 98, 97, 99, 107, 115, 108, 97, 115, 104, 32, 105, 110, 32, 97, 32, 112, 108, 97, 105, 110, 32, 115, 116, 114, 105, 110, 103, 32, 99, 111, 110, 115, 116, 97, 110, 116, 44].append [32, 119, 104, 105, 99, 104, 32, 116, 104, 101, 32, 115, 101, 114, 118, 101, 114, 32, 114, 101, 97, 100, 115, 32, 97, 115, 32, 97, 110, 32, 101, 115, 99, 97, 112, 101, 32, 119, 104, 101, 114, 101, 32, 115, 116]).append ([97, 110, 100, 97, 114, 100, 95, 99, 111, 110, 102, 111, 114, 109, 105, 110, 103, 95, 115, 116, 114, 105, 110, 103, 115, 32, 105, 115, 32, 111, 102, 102, 58, 32, 119, 114, 105, 116, 101, 32, 116, 104, 101, 32, 99].append [111, 110, 115, 116, 97, 110, 116, 32, 97, 115, 32, 69, 39, 46, 46, 46, 39, 44, 32, 119, 105, 116, 104, 32, 116, 104, 101, 32, 98, 97, 99, 107, 115, 108, 97, 115, 104, 32, 100, 111, 117, 98, 108, 101, 100])).toArray }

theorem open_some : OPEN.toList.isEmpty = false := by rw [ByteArray.toList_eq]; decide +kernel
theorem bs_some : BS.toList.isEmpty = false := by rw [ByteArray.toList_eq]; decide +kernel
theorem open_bs : (OPEN.toList == BS.toList) = false := by rw [ByteArray.toList_eq, ByteArray.toList_eq]; decide +kernel

/-- The text that goes with a kind. -/
def msg (k : Int) : ByteArray := if k = 0 then { data := #[] } else if k = 1 then BS else OPEN

end Go.Proofs.Qxb6600895a
