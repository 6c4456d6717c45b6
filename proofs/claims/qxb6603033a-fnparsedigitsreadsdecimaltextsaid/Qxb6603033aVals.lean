/-
  PLAIN LAWS ON DECIMAL TEXT, MORE: leading zeros, how great a text of n digits is. Own work.
-/
import Derived.Test.Qxb6603033aParse
namespace Go.Proofs.Qxb6603033a
open Go.RowKit

theorem pow10_add (a : Nat) : ∀ d, (10 : Int) ^ a ≤ 10 ^ (a + d)
  | 0 => Int.le_refl _
  | d + 1 => by
    have ih := pow10_add a d
    have hp : (0 : Int) ≤ 10 ^ (a + d) := Int.pow_nonneg (by omega)
    rw [← Nat.add_assoc, Int.pow_succ]
    omega

theorem pow10_mono {a b : Nat} (h : a ≤ b) : (10 : Int) ^ a ≤ 10 ^ b := by
  have := pow10_add a (b - a)
  rw [show a + (b - a) = b by omega] at this
  exact this

theorem valFrom_append (n : Int) (a b : List UInt8) : valFrom n (a ++ b) = valFrom (valFrom n a) b := by
  simp [valFrom, List.foldl_append]

theorem valFrom_cons (n : Int) (c : UInt8) (l : List UInt8) : valFrom n (c :: l) = valFrom (n * 10 + ((c.toNat : Int) - 48)) l := rfl

theorem valFrom_ge : ∀ (l : List UInt8) (n : Int), (∀ c ∈ l, isD c = true) → n * 10 ^ l.length ≤ valFrom n l
  | [], n, _ => by simp [valFrom]
  | c :: l, n, h => by
    have hc := (isD_iff c).1 (h c (by simp))
    have ih := valFrom_ge l (n * 10 + ((c.toNat : Int) - 48)) (fun d hd => h d (by simp [hd]))
    rw [valFrom_cons]
    refine Int.le_trans ?_ ih
    have hp : (0 : Int) ≤ 10 ^ l.length := Int.pow_nonneg (by omega)
    have e : n * 10 ^ (c :: l).length = (n * 10) * 10 ^ l.length := by
      rw [List.length_cons, Int.pow_succ, Int.mul_comm (10 ^ l.length) 10, Int.mul_assoc]
    rw [e, Int.add_mul]
    have := Int.mul_nonneg (show (0 : Int) ≤ (c.toNat : Int) - 48 by omega) hp
    omega

theorem valFrom_lt : ∀ (l : List UInt8) (n : Int), (∀ c ∈ l, isD c = true) → valFrom n l + 1 ≤ (n + 1) * 10 ^ l.length
  | [], n, _ => by simp [valFrom]
  | c :: l, n, h => by
    have hc := (isD_iff c).1 (h c (by simp))
    have ih := valFrom_lt l (n * 10 + ((c.toNat : Int) - 48)) (fun d hd => h d (by simp [hd]))
    rw [valFrom_cons]
    refine Int.le_trans ih ?_
    have hp : (0 : Int) ≤ 10 ^ l.length := Int.pow_nonneg (by omega)
    have e : (n + 1) * 10 ^ (c :: l).length = ((n + 1) * 10) * 10 ^ l.length := by
      rw [List.length_cons, Int.pow_succ, Int.mul_comm (10 ^ l.length) 10, Int.mul_assoc]
    rw [e]
    exact Int.mul_le_mul_of_nonneg_right (by omega) hp

/-- A text of noughts. -/
def zeros (l : List UInt8) : Bool := l.all fun c => c == 48

theorem valFrom_zeros : ∀ (l : List UInt8), zeros l = true → valFrom 0 l = 0
  | [], _ => rfl
  | c :: l, h => by
    unfold zeros at h
    rw [List.all_cons, Bool.and_eq_true] at h
    have hc : c = 48 := by simpa using h.1
    rw [valFrom_cons, hc]
    exact valFrom_zeros l h.2

theorem take_split (l : List UInt8) (k j : Nat) (h : k ≤ j) : l.take j = l.take k ++ (l.drop k).take (j - k) := by
  have e : j = k + (j - k) := by omega
  rw [e, List.take_add]
  simp

theorem val_take_zeros (l : List UInt8) (k : Nat) (hz : zeros (l.take k) = true) : val (l.take k) = 0 := valFrom_zeros _ hz

theorem val_take_le (l : List UInt8) (k j : Nat) (hz : zeros (l.take k) = true) (hd : l.all isD = true) (h : k ≤ j) : val (l.take j) + 1 ≤ 10 ^ (j - k) := by
  rw [take_split l k j h]
  unfold val
  rw [valFrom_append, valFrom_zeros _ hz]
  have hall : ∀ c ∈ (l.drop k).take (j - k), isD c = true := fun c hc => List.all_eq_true.1 hd c (List.mem_of_mem_drop (List.mem_of_mem_take hc))
  have h1 := valFrom_lt ((l.drop k).take (j - k)) 0 hall
  have h2 : ((l.drop k).take (j - k)).length ≤ j - k := List.length_take_le _ _
  have h3 : (10 : Int) ^ ((l.drop k).take (j - k)).length ≤ 10 ^ (j - k) := pow10_mono h2
  omega

theorem pow_le_17 (n : Nat) (h : n ≤ 17) : (10 : Int) ^ n ≤ 100000000000000000 := by
  have : (10 : Int) ^ n ≤ 10 ^ 17 := pow10_mono h
  exact Int.le_trans this (by decide)

theorem pow_le_18 (n : Nat) (h : n ≤ 18) : (10 : Int) ^ n ≤ 1000000000000000000 := by
  have : (10 : Int) ^ n ≤ 10 ^ 18 := pow10_mono h
  exact Int.le_trans this (by decide)

theorem val_great (l : List UInt8) (k : Nat) (hk : k < l.length) (hz : zeros (l.take k) = true) (hd : l.all isD = true) (h48 : l[k] ≠ 48) (hn : 18 < l.length - k) : 1000000000000000000 ≤ val l := by
  have e : valFrom 0 l = valFrom (valFrom 0 (l.take k)) (l[k] :: l.drop (k + 1)) := by
    rw [← valFrom_append, List.getElem_cons_drop, List.take_append_drop]
  have hall : ∀ c ∈ l, isD c = true := fun c hc => List.all_eq_true.1 hd c hc
  have hc := (isD_iff l[k]).1 (hall _ (List.getElem_mem hk))
  have hne : l[k].toNat ≠ 48 := fun h => h48 (by
    apply UInt8.toNat_inj.1
    rw [h]
    rfl)
  have e2 : val l = valFrom (0 * 10 + ((l[k].toNat : Int) - 48)) (l.drop (k + 1)) := by
    unfold val
    rw [e, valFrom_zeros _ hz, valFrom_cons]
  have h1 := valFrom_ge (l.drop (k + 1)) (0 * 10 + ((l[k].toNat : Int) - 48)) (fun c hc => hall c (List.mem_of_mem_drop hc))
  rw [← e2] at h1
  have h2 : (10 : Int) ^ 18 ≤ 10 ^ (l.drop (k + 1)).length := pow10_mono (by simp; omega)
  have h3 : (1 : Int) * 10 ^ (l.drop (k + 1)).length ≤ (0 * 10 + ((l[k].toNat : Int) - 48)) * 10 ^ (l.drop (k + 1)).length := Int.mul_le_mul_of_nonneg_right (by omega) (Int.pow_nonneg (by omega))
  have h4 : (10 : Int) ^ 18 = 1000000000000000000 := by decide
  omega

end Go.Proofs.Qxb6603033a
