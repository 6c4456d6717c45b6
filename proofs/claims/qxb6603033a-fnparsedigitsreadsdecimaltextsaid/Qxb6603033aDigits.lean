/-
  PLAIN LAWS ON DECIMAL TEXT. Own work.
-/
import Derived.Test.Qxb6603033aRows
import Derived.WalkKit
import Derived.ProofKit
import Derived.Laws.IdiomStrings
namespace Go.Proofs.Qxb6603033a
open Go.RowKit

theorem hide {p : Prop} (h : p) : Hid p := h

/-- A decimal digit. -/
def isD (c : UInt8) : Bool := decide (48 ≤ c.toNat) && decide (c.toNat ≤ 57)

/-- The number that a text of digits says, n ahead of it. -/
def valFrom (n : Int) (l : List UInt8) : Int := l.foldl (fun n c => n * 10 + ((c.toNat : Int) - 48)) n

def val (l : List UInt8) : Int := valFrom 0 l

theorem isD_iff (c : UInt8) : isD c = true ↔ 48 ≤ c.toNat ∧ c.toNat ≤ 57 := by
  unfold isD
  rw [Bool.and_eq_true, decide_eq_true_iff, decide_eq_true_iff]

theorem valFrom_nonneg : ∀ (l : List UInt8) (n : Int), 0 ≤ n → (∀ c ∈ l, isD c = true) → 0 ≤ valFrom n l
  | [], n, hn, _ => hn
  | c :: l, n, hn, h => by
    have hc := (isD_iff c).1 (h c (by simp))
    exact valFrom_nonneg l _ (by show 0 ≤ n * 10 + ((c.toNat : Int) - 48); omega) (fun d hd => h d (by simp [hd]))

theorem val_snoc (l : List UInt8) (c : UInt8) : val (l ++ [c]) = val l * 10 + ((c.toNat : Int) - 48) := by
  simp [val, valFrom, List.foldl_append]

/-- As 'parseDigits' clamps. -/
def clamp (v ceil : Int) : Int := if ceil < v then ceil else v

theorem clamp_step (v ceil d : Int) (_hv : 0 ≤ v) (_hc : 0 ≤ ceil) (_hd : 0 ≤ d) : clamp (clamp v ceil * 10 + d) ceil = clamp (v * 10 + d) ceil := by
  unfold clamp
  by_cases h : ceil < v
  · rw [if_pos h]
    by_cases h2 : ceil < ceil * 10 + d
    · rw [if_pos h2, if_pos (by omega)]
    · rw [if_neg h2]
      by_cases h3 : ceil < v * 10 + d
      · rw [if_pos h3]; omega
      · omega
  · rw [if_neg h]

theorem clamp_le (v ceil : Int) : clamp v ceil ≤ ceil := by
  unfold clamp; split <;> omega

theorem clamp_nonneg (v ceil : Int) (hv : 0 ≤ v) (hc : 0 ≤ ceil) : 0 ≤ clamp v ceil := by
  unfold clamp; split <;> omega

theorem take_snoc (l : List UInt8) (k : Nat) (h : k < l.length) : l.take (k + 1) = l.take k ++ [l[k]] := List.take_succ_eq_append_getElem h

end Go.Proofs.Qxb6603033a
