/-
  THE WALK OF FnLargestRaiseOne. Own work.
-/
import Derived.Test.Qxb6602820aBound
namespace Go.Proofs.Qxb6602820a
open Go.RowKit

theorem hide {p : Prop} (h : p) : Hid p := h

/-- The greater of the old answer and g. -/
def want (m g : Int) : Int := if m < g then g else m

theorem want_hi (m g : Int) (h : m < g) : want m g = g := if_pos h
theorem want_lo (m g : Int) (h : ¬ m < g) : want m g = m := if_neg h

theorem raise0 (a b c d e f g : Int) (h : a ≤ g) : lg g b c d e f = want (lg a b c d e f) g := by
  have h1 := lg_is a b c d e f
  have h2 := lg_is g b c d e f
  unfold want
  split <;> omega
theorem raise1 (a b c d e f g : Int) (h : b ≤ g) : lg a g c d e f = want (lg a b c d e f) g := by
  have h1 := lg_is a b c d e f
  have h2 := lg_is a g c d e f
  unfold want
  split <;> omega
theorem raise2 (a b c d e f g : Int) (h : c ≤ g) : lg a b g d e f = want (lg a b c d e f) g := by
  have h1 := lg_is a b c d e f
  have h2 := lg_is a b g d e f
  unfold want
  split <;> omega
theorem raise3 (a b c d e f g : Int) (h : d ≤ g) : lg a b c g e f = want (lg a b c d e f) g := by
  have h1 := lg_is a b c d e f
  have h2 := lg_is a b c g e f
  unfold want
  split <;> omega
theorem raise4 (a b c d e f g : Int) (h : e ≤ g) : lg a b c d g f = want (lg a b c d e f) g := by
  have h1 := lg_is a b c d e f
  have h2 := lg_is a b c d g f
  unfold want
  split <;> omega
theorem raise5 (a b c d e f g : Int) (h : f ≤ g) : lg a b c d e g = want (lg a b c d e f) g := by
  have h1 := lg_is a b c d e f
  have h2 := lg_is a b c d e g
  unfold want
  split <;> omega

set_option maxRecDepth 100000 in
set_option maxHeartbeats 2000000 in
theorem raise_hi (a b c d e f g : Int) (w : World) (hbg : lg a b c d e f < g) :
    Calls Try.prog 5 #[.int .i64 a, .int .i64 b, .int .i64 c, .int .i64 d, .int .i64 e, .int .i64 f, .int .i64 g] w fun r w' => r = .returned (.bool true) ∧ Below w.heap.size w w' := by
  have HW := hide (want_hi (lg a b c d e f) g hbg)
  have HR0 := hide (raise0 a b c d e f g)
  have HR1 := hide (raise1 a b c d e f g)
  have HR2 := hide (raise2 a b c d e f g)
  have HR3 := hide (raise3 a b c d e f g)
  have HR4 := hide (raise4 a b c d e f g)
  have HR5 := hide (raise5 a b c d e f g)
  rw [HW.out] at HR0 HR1 HR2 HR3 HR4 HR5
  go_enter Try.func5, Try.ntmps5
  go_wp2_with (first
    | (go_at_call 7; refine (mkLegs_any a b c d e f _).mono ?_; rintro r w1 ⟨rfl, hb1⟩)
    | (go_at_call 6; refine (zlargest_any a b c d e f _).mono ?_; rintro r w2 ⟨rfl, hb2⟩; have hb := hb1.trans (hb2.mono hb1.size); clear hb1 hb2; generalize lg a b c d e f = m at *))
  have hW1 : Below w.heap.size w (w.alloc (.cells #[.int .i64 a, .int .i64 b, .int .i64 c, .int .i64 d, .int .i64 e, .int .i64 f] 28)) := (Below.refl _ _).alloc (Nat.le_refl _) _
  have e1 : (w.alloc (.cells #[.int .i64 a, .int .i64 b, .int .i64 c, .int .i64 d, .int .i64 e, .int .i64 f] 28)).heap.size = w.heap.size + 1 := by simp
  have x0 : (w.alloc (.cells #[.int .i64 a, .int .i64 b, .int .i64 c, .int .i64 d, .int .i64 e, .int .i64 f] 28)).cell? ⟨w.heap.size, 0, none⟩ = some (.int .i64 a) := by simp
  have x1 : (w.alloc (.cells #[.int .i64 a, .int .i64 b, .int .i64 c, .int .i64 d, .int .i64 e, .int .i64 f] 28)).cell? ⟨w.heap.size, 1, none⟩ = some (.int .i64 b) := by simp
  have x2 : (w.alloc (.cells #[.int .i64 a, .int .i64 b, .int .i64 c, .int .i64 d, .int .i64 e, .int .i64 f] 28)).cell? ⟨w.heap.size, 2, none⟩ = some (.int .i64 c) := by simp
  have x3 : (w.alloc (.cells #[.int .i64 a, .int .i64 b, .int .i64 c, .int .i64 d, .int .i64 e, .int .i64 f] 28)).cell? ⟨w.heap.size, 3, none⟩ = some (.int .i64 d) := by simp
  have x4 : (w.alloc (.cells #[.int .i64 a, .int .i64 b, .int .i64 c, .int .i64 d, .int .i64 e, .int .i64 f] 28)).cell? ⟨w.heap.size, 4, none⟩ = some (.int .i64 e) := by simp
  have x5 : (w.alloc (.cells #[.int .i64 a, .int .i64 b, .int .i64 c, .int .i64 d, .int .i64 e, .int .i64 f] 28)).cell? ⟨w.heap.size, 5, none⟩ = some (.int .i64 f) := by simp
  rw [e1] at hb
  generalize w.alloc (.cells #[.int .i64 a, .int .i64 b, .int .i64 c, .int .i64 d, .int .i64 e, .int .i64 f] 28) = W1 at *
  have E1 := hide e1
  clear e1 HW
  go_loopw [18] (fun i wr => ∃ k : Nat, k ≤ 6 ∧ i = .int .i64 k ∧ Below (w.heap.size + 1) W1 wr) (fun i _ => 6 - (intOf i).toNat)
  case atStart => exact ⟨0, by omega, rfl, hb⟩
  case round =>
    obtain ⟨k, hk, rfl, hnx⟩ := hrel
    have hsz : w.heap.size < wr.heap.size := by have := hnx.size; rw [E1.out] at this; omega
    have y0 := (hnx.cell (p := ⟨w.heap.size, 0, none⟩) (Nat.lt_succ_self _)).trans x0
    have y1 := (hnx.cell (p := ⟨w.heap.size, 1, none⟩) (Nat.lt_succ_self _)).trans x1
    have y2 := (hnx.cell (p := ⟨w.heap.size, 2, none⟩) (Nat.lt_succ_self _)).trans x2
    have y3 := (hnx.cell (p := ⟨w.heap.size, 3, none⟩) (Nat.lt_succ_self _)).trans x3
    have y4 := (hnx.cell (p := ⟨w.heap.size, 4, none⟩) (Nat.lt_succ_self _)).trans x4
    have y5 := (hnx.cell (p := ⟨w.heap.size, 5, none⟩) (Nat.lt_succ_self _)).trans x5
    match k, hk with
    | 0, _ =>
      by_cases hx : g < a
      · go_wp2
        go_roundw
        case rel => exact ⟨1, by omega, rfl, hnx⟩
        case measure => simp [intOf]
      · have HV := hide (HR0.out (by omega))
        go_wp2_with (first
          | (go_at_call 7; refine (mkLegs_any g b c d e f _).mono ?_; rintro r w3 ⟨rfl, hb3⟩)
          | (go_at_call 6; refine (zlargest_any g b c d e f _).mono ?_; rintro r w4 ⟨rfl, hb4⟩; rw [HV.out]))
        have hbn : Below (w.heap.size + 1) W1 w4 := ((hnx.alloc (by omega) _).trans (hb3.mono (by simp; omega))).trans (hb4.mono (by have := hb3.size; simp at this; omega))
        go_roundw
        case rel => exact ⟨1, by omega, rfl, hbn⟩
        case measure => simp [intOf]
    | 1, _ =>
      by_cases hx : g < b
      · go_wp2
        go_roundw
        case rel => exact ⟨2, by omega, rfl, hnx⟩
        case measure => simp [intOf]
      · have HV := hide (HR1.out (by omega))
        go_wp2_with (first
          | (go_at_call 7; refine (mkLegs_any a g c d e f _).mono ?_; rintro r w3 ⟨rfl, hb3⟩)
          | (go_at_call 6; refine (zlargest_any a g c d e f _).mono ?_; rintro r w4 ⟨rfl, hb4⟩; rw [HV.out]))
        have hbn : Below (w.heap.size + 1) W1 w4 := ((hnx.alloc (by omega) _).trans (hb3.mono (by simp; omega))).trans (hb4.mono (by have := hb3.size; simp at this; omega))
        go_roundw
        case rel => exact ⟨2, by omega, rfl, hbn⟩
        case measure => simp [intOf]
    | 2, _ =>
      by_cases hx : g < c
      · go_wp2
        go_roundw
        case rel => exact ⟨3, by omega, rfl, hnx⟩
        case measure => simp [intOf]
      · have HV := hide (HR2.out (by omega))
        go_wp2_with (first
          | (go_at_call 7; refine (mkLegs_any a b g d e f _).mono ?_; rintro r w3 ⟨rfl, hb3⟩)
          | (go_at_call 6; refine (zlargest_any a b g d e f _).mono ?_; rintro r w4 ⟨rfl, hb4⟩; rw [HV.out]))
        have hbn : Below (w.heap.size + 1) W1 w4 := ((hnx.alloc (by omega) _).trans (hb3.mono (by simp; omega))).trans (hb4.mono (by have := hb3.size; simp at this; omega))
        go_roundw
        case rel => exact ⟨3, by omega, rfl, hbn⟩
        case measure => simp [intOf]
    | 3, _ =>
      by_cases hx : g < d
      · go_wp2
        go_roundw
        case rel => exact ⟨4, by omega, rfl, hnx⟩
        case measure => simp [intOf]
      · have HV := hide (HR3.out (by omega))
        go_wp2_with (first
          | (go_at_call 7; refine (mkLegs_any a b c g e f _).mono ?_; rintro r w3 ⟨rfl, hb3⟩)
          | (go_at_call 6; refine (zlargest_any a b c g e f _).mono ?_; rintro r w4 ⟨rfl, hb4⟩; rw [HV.out]))
        have hbn : Below (w.heap.size + 1) W1 w4 := ((hnx.alloc (by omega) _).trans (hb3.mono (by simp; omega))).trans (hb4.mono (by have := hb3.size; simp at this; omega))
        go_roundw
        case rel => exact ⟨4, by omega, rfl, hbn⟩
        case measure => simp [intOf]
    | 4, _ =>
      by_cases hx : g < e
      · go_wp2
        go_roundw
        case rel => exact ⟨5, by omega, rfl, hnx⟩
        case measure => simp [intOf]
      · have HV := hide (HR4.out (by omega))
        go_wp2_with (first
          | (go_at_call 7; refine (mkLegs_any a b c d g f _).mono ?_; rintro r w3 ⟨rfl, hb3⟩)
          | (go_at_call 6; refine (zlargest_any a b c d g f _).mono ?_; rintro r w4 ⟨rfl, hb4⟩; rw [HV.out]))
        have hbn : Below (w.heap.size + 1) W1 w4 := ((hnx.alloc (by omega) _).trans (hb3.mono (by simp; omega))).trans (hb4.mono (by have := hb3.size; simp at this; omega))
        go_roundw
        case rel => exact ⟨5, by omega, rfl, hbn⟩
        case measure => simp [intOf]
    | 5, _ =>
      by_cases hx : g < f
      · go_wp2
        go_roundw
        case rel => exact ⟨6, by omega, rfl, hnx⟩
        case measure => simp [intOf]
      · have HV := hide (HR5.out (by omega))
        go_wp2_with (first
          | (go_at_call 7; refine (mkLegs_any a b c d e g _).mono ?_; rintro r w3 ⟨rfl, hb3⟩)
          | (go_at_call 6; refine (zlargest_any a b c d e g _).mono ?_; rintro r w4 ⟨rfl, hb4⟩; rw [HV.out]))
        have hbn : Below (w.heap.size + 1) W1 w4 := ((hnx.alloc (by omega) _).trans (hb3.mono (by simp; omega))).trans (hb4.mono (by have := hb3.size; simp at this; omega))
        go_roundw
        case rel => exact ⟨6, by omega, rfl, hbn⟩
        case measure => simp [intOf]
    | 6, _ =>
      go_wp2
      go_ret
      exact ⟨rfl, hW1.trans (hnx.mono (Nat.le_succ _))⟩

set_option maxRecDepth 100000 in
set_option maxHeartbeats 2000000 in
theorem raise_lo (a b c d e f g : Int) (w : World) (hbg : ¬ lg a b c d e f < g) :
    Calls Try.prog 5 #[.int .i64 a, .int .i64 b, .int .i64 c, .int .i64 d, .int .i64 e, .int .i64 f, .int .i64 g] w fun r w' => r = .returned (.bool true) ∧ Below w.heap.size w w' := by
  have HW := hide (want_lo (lg a b c d e f) g hbg)
  have HR0 := hide (raise0 a b c d e f g)
  have HR1 := hide (raise1 a b c d e f g)
  have HR2 := hide (raise2 a b c d e f g)
  have HR3 := hide (raise3 a b c d e f g)
  have HR4 := hide (raise4 a b c d e f g)
  have HR5 := hide (raise5 a b c d e f g)
  rw [HW.out] at HR0 HR1 HR2 HR3 HR4 HR5
  go_enter Try.func5, Try.ntmps5
  go_wp2_with (first
    | (go_at_call 7; refine (mkLegs_any a b c d e f _).mono ?_; rintro r w1 ⟨rfl, hb1⟩)
    | (go_at_call 6; refine (zlargest_any a b c d e f _).mono ?_; rintro r w2 ⟨rfl, hb2⟩; have hb := hb1.trans (hb2.mono hb1.size); clear hb1 hb2; generalize lg a b c d e f = m at *))
  have hW1 : Below w.heap.size w (w.alloc (.cells #[.int .i64 a, .int .i64 b, .int .i64 c, .int .i64 d, .int .i64 e, .int .i64 f] 28)) := (Below.refl _ _).alloc (Nat.le_refl _) _
  have e1 : (w.alloc (.cells #[.int .i64 a, .int .i64 b, .int .i64 c, .int .i64 d, .int .i64 e, .int .i64 f] 28)).heap.size = w.heap.size + 1 := by simp
  have x0 : (w.alloc (.cells #[.int .i64 a, .int .i64 b, .int .i64 c, .int .i64 d, .int .i64 e, .int .i64 f] 28)).cell? ⟨w.heap.size, 0, none⟩ = some (.int .i64 a) := by simp
  have x1 : (w.alloc (.cells #[.int .i64 a, .int .i64 b, .int .i64 c, .int .i64 d, .int .i64 e, .int .i64 f] 28)).cell? ⟨w.heap.size, 1, none⟩ = some (.int .i64 b) := by simp
  have x2 : (w.alloc (.cells #[.int .i64 a, .int .i64 b, .int .i64 c, .int .i64 d, .int .i64 e, .int .i64 f] 28)).cell? ⟨w.heap.size, 2, none⟩ = some (.int .i64 c) := by simp
  have x3 : (w.alloc (.cells #[.int .i64 a, .int .i64 b, .int .i64 c, .int .i64 d, .int .i64 e, .int .i64 f] 28)).cell? ⟨w.heap.size, 3, none⟩ = some (.int .i64 d) := by simp
  have x4 : (w.alloc (.cells #[.int .i64 a, .int .i64 b, .int .i64 c, .int .i64 d, .int .i64 e, .int .i64 f] 28)).cell? ⟨w.heap.size, 4, none⟩ = some (.int .i64 e) := by simp
  have x5 : (w.alloc (.cells #[.int .i64 a, .int .i64 b, .int .i64 c, .int .i64 d, .int .i64 e, .int .i64 f] 28)).cell? ⟨w.heap.size, 5, none⟩ = some (.int .i64 f) := by simp
  rw [e1] at hb
  generalize w.alloc (.cells #[.int .i64 a, .int .i64 b, .int .i64 c, .int .i64 d, .int .i64 e, .int .i64 f] 28) = W1 at *
  have E1 := hide e1
  clear e1 HW
  go_loopw [18] (fun i wr => ∃ k : Nat, k ≤ 6 ∧ i = .int .i64 k ∧ Below (w.heap.size + 1) W1 wr) (fun i _ => 6 - (intOf i).toNat)
  case atStart => exact ⟨0, by omega, rfl, hb⟩
  case round =>
    obtain ⟨k, hk, rfl, hnx⟩ := hrel
    have hsz : w.heap.size < wr.heap.size := by have := hnx.size; rw [E1.out] at this; omega
    have y0 := (hnx.cell (p := ⟨w.heap.size, 0, none⟩) (Nat.lt_succ_self _)).trans x0
    have y1 := (hnx.cell (p := ⟨w.heap.size, 1, none⟩) (Nat.lt_succ_self _)).trans x1
    have y2 := (hnx.cell (p := ⟨w.heap.size, 2, none⟩) (Nat.lt_succ_self _)).trans x2
    have y3 := (hnx.cell (p := ⟨w.heap.size, 3, none⟩) (Nat.lt_succ_self _)).trans x3
    have y4 := (hnx.cell (p := ⟨w.heap.size, 4, none⟩) (Nat.lt_succ_self _)).trans x4
    have y5 := (hnx.cell (p := ⟨w.heap.size, 5, none⟩) (Nat.lt_succ_self _)).trans x5
    match k, hk with
    | 0, _ =>
      by_cases hx : g < a
      · go_wp2
        go_roundw
        case rel => exact ⟨1, by omega, rfl, hnx⟩
        case measure => simp [intOf]
      · have HV := hide (HR0.out (by omega))
        go_wp2_with (first
          | (go_at_call 7; refine (mkLegs_any g b c d e f _).mono ?_; rintro r w3 ⟨rfl, hb3⟩)
          | (go_at_call 6; refine (zlargest_any g b c d e f _).mono ?_; rintro r w4 ⟨rfl, hb4⟩; rw [HV.out]))
        have hbn : Below (w.heap.size + 1) W1 w4 := ((hnx.alloc (by omega) _).trans (hb3.mono (by simp; omega))).trans (hb4.mono (by have := hb3.size; simp at this; omega))
        go_roundw
        case rel => exact ⟨1, by omega, rfl, hbn⟩
        case measure => simp [intOf]
    | 1, _ =>
      by_cases hx : g < b
      · go_wp2
        go_roundw
        case rel => exact ⟨2, by omega, rfl, hnx⟩
        case measure => simp [intOf]
      · have HV := hide (HR1.out (by omega))
        go_wp2_with (first
          | (go_at_call 7; refine (mkLegs_any a g c d e f _).mono ?_; rintro r w3 ⟨rfl, hb3⟩)
          | (go_at_call 6; refine (zlargest_any a g c d e f _).mono ?_; rintro r w4 ⟨rfl, hb4⟩; rw [HV.out]))
        have hbn : Below (w.heap.size + 1) W1 w4 := ((hnx.alloc (by omega) _).trans (hb3.mono (by simp; omega))).trans (hb4.mono (by have := hb3.size; simp at this; omega))
        go_roundw
        case rel => exact ⟨2, by omega, rfl, hbn⟩
        case measure => simp [intOf]
    | 2, _ =>
      by_cases hx : g < c
      · go_wp2
        go_roundw
        case rel => exact ⟨3, by omega, rfl, hnx⟩
        case measure => simp [intOf]
      · have HV := hide (HR2.out (by omega))
        go_wp2_with (first
          | (go_at_call 7; refine (mkLegs_any a b g d e f _).mono ?_; rintro r w3 ⟨rfl, hb3⟩)
          | (go_at_call 6; refine (zlargest_any a b g d e f _).mono ?_; rintro r w4 ⟨rfl, hb4⟩; rw [HV.out]))
        have hbn : Below (w.heap.size + 1) W1 w4 := ((hnx.alloc (by omega) _).trans (hb3.mono (by simp; omega))).trans (hb4.mono (by have := hb3.size; simp at this; omega))
        go_roundw
        case rel => exact ⟨3, by omega, rfl, hbn⟩
        case measure => simp [intOf]
    | 3, _ =>
      by_cases hx : g < d
      · go_wp2
        go_roundw
        case rel => exact ⟨4, by omega, rfl, hnx⟩
        case measure => simp [intOf]
      · have HV := hide (HR3.out (by omega))
        go_wp2_with (first
          | (go_at_call 7; refine (mkLegs_any a b c g e f _).mono ?_; rintro r w3 ⟨rfl, hb3⟩)
          | (go_at_call 6; refine (zlargest_any a b c g e f _).mono ?_; rintro r w4 ⟨rfl, hb4⟩; rw [HV.out]))
        have hbn : Below (w.heap.size + 1) W1 w4 := ((hnx.alloc (by omega) _).trans (hb3.mono (by simp; omega))).trans (hb4.mono (by have := hb3.size; simp at this; omega))
        go_roundw
        case rel => exact ⟨4, by omega, rfl, hbn⟩
        case measure => simp [intOf]
    | 4, _ =>
      by_cases hx : g < e
      · go_wp2
        go_roundw
        case rel => exact ⟨5, by omega, rfl, hnx⟩
        case measure => simp [intOf]
      · have HV := hide (HR4.out (by omega))
        go_wp2_with (first
          | (go_at_call 7; refine (mkLegs_any a b c d g f _).mono ?_; rintro r w3 ⟨rfl, hb3⟩)
          | (go_at_call 6; refine (zlargest_any a b c d g f _).mono ?_; rintro r w4 ⟨rfl, hb4⟩; rw [HV.out]))
        have hbn : Below (w.heap.size + 1) W1 w4 := ((hnx.alloc (by omega) _).trans (hb3.mono (by simp; omega))).trans (hb4.mono (by have := hb3.size; simp at this; omega))
        go_roundw
        case rel => exact ⟨5, by omega, rfl, hbn⟩
        case measure => simp [intOf]
    | 5, _ =>
      by_cases hx : g < f
      · go_wp2
        go_roundw
        case rel => exact ⟨6, by omega, rfl, hnx⟩
        case measure => simp [intOf]
      · have HV := hide (HR5.out (by omega))
        go_wp2_with (first
          | (go_at_call 7; refine (mkLegs_any a b c d e g _).mono ?_; rintro r w3 ⟨rfl, hb3⟩)
          | (go_at_call 6; refine (zlargest_any a b c d e g _).mono ?_; rintro r w4 ⟨rfl, hb4⟩; rw [HV.out]))
        have hbn : Below (w.heap.size + 1) W1 w4 := ((hnx.alloc (by omega) _).trans (hb3.mono (by simp; omega))).trans (hb4.mono (by have := hb3.size; simp at this; omega))
        go_roundw
        case rel => exact ⟨6, by omega, rfl, hbn⟩
        case measure => simp [intOf]
    | 6, _ =>
      go_wp2
      go_ret
      exact ⟨rfl, hW1.trans (hnx.mono (Nat.le_succ _))⟩

theorem raise_any (a b c d e f g : Int) (w : World) :
    Calls Try.prog 5 #[.int .i64 a, .int .i64 b, .int .i64 c, .int .i64 d, .int .i64 e, .int .i64 f, .int .i64 g] w fun r w' => r = .returned (.bool true) ∧ Below w.heap.size w w' := by
  by_cases h : lg a b c d e f < g
  · exact raise_hi a b c d e f g w h
  · exact raise_lo a b c d e f g w h

end Go.Proofs.Qxb6602820a
