/-
  THE WALK OF FnParseDigitsReadsDecimalText. Own work.
-/
import Derived.Test.Qxb6603033aItoa
namespace Go.Proofs.Qxb6603033a
open Go.RowKit

/-- What ZZParseDigits answers at a text of digits that says v. -/
theorem parse_says (ds : List UInt8) (v ceil : Int) (hl : ds.length ≤ 20) (hp : 0 < ds.length) (hd : AllD ds) (hv : val ds = v) (h0 : 0 ≤ ceil) (h1 : ceil ≤ 922337203685477579) (w : World) :
    Calls Try.prog 15 #[.string ⟨ds.toArray⟩, .int .i64 ceil] w fun e w' => e = .returned (.tuple #[.int .i64 (clamp v ceil), .bool true]) ∧ Below w.heap.size w w' := by
  have e0 : ds.isEmpty = false := by
    cases ds with
    | nil => simp at hp
    | cons a l => rfl
  have e1 : pdN ds ceil = clamp v ceil := by unfold pdN; rw [e0, show ds.all isD = true from hd, hv]; rfl
  have e2 : pdOk ds = true := by unfold pdOk; rw [e0, show ds.all isD = true from hd]; rfl
  have h := zparse_any ⟨ds.toArray⟩ ceil w (show ds.toArray.size ≤ 1048576 by simp; omega) h0 h1
  simp only [e1, e2] at h
  exact h

set_option maxRecDepth 100000 in
theorem text_out (v ceil : Int) (w : World) (hc : v < 0 ∨ ceil < 0 ∨ 922337203685477580 ≤ ceil) : Calls Try.prog 6 #[.int .i64 v, .int .i64 ceil] w fun e w' => e = .returned (.bool true) ∧ Below w.heap.size w w' := by
  by_cases hv : v < 0
  · go_enter Try.func6, Try.ntmps6
    go_wp2
    go_ret
    exact ⟨rfl, Below.refl _ _⟩
  · by_cases hc0 : ceil < 0
    · clear hc
      go_enter Try.func6, Try.ntmps6
      go_wp2
      go_ret
      exact ⟨rfl, Below.refl _ _⟩
    · have hc1 : 922337203685477580 ≤ ceil := by omega
      clear hc
      go_enter Try.func6, Try.ntmps6
      go_wp2
      go_ret
      exact ⟨rfl, Below.refl _ _⟩

set_option maxRecDepth 100000 in
theorem text_zero (ceil : Int) (w : World) (h0 : 0 ≤ ceil) (h1 : ceil ≤ 922337203685477579) : Calls Try.prog 6 #[.int .i64 0, .int .i64 ceil] w fun e w' => e = .returned (.bool true) ∧ Below w.heap.size w w' := by
  have e : clamp 0 ceil = 0 := by unfold clamp; rw [if_neg (by omega)]
  have HE := hide e
  clear e
  go_enter Try.func6, Try.ntmps6
  go_wp2_with (first
    | (go_at_call 16; refine (itoa_zero _).mono ?_; rintro e w1 ⟨rfl, rfl⟩)
    | (go_at_call 15; refine (parse_says [48] 0 ceil (by decide) (by decide) rfl rfl h0 h1 _).mono ?_; rintro e w2 ⟨rfl, hb⟩; rw [HE.out]))
  go_ret
  exact ⟨rfl, hb⟩

set_option maxRecDepth 100000 in
theorem text_pos (v ceil : Int) (w : World) (hv : 0 < v) (hv1 : v ≤ 9223372036854775807) (h0 : 0 ≤ ceil) (h1 : ceil ≤ 922337203685477579) : Calls Try.prog 6 #[.int .i64 v, .int .i64 ceil] w fun e w' => e = .returned (.bool true) ∧ Below w.heap.size w w' := by
  by_cases hc : ceil < v
  · have HE := hide (show clamp v ceil = ceil by unfold clamp; rw [if_pos hc])
    go_enter Try.func6, Try.ntmps6
    go_wp2_with (first
      | (go_at_call 16; refine (itoa_pos v _ hv hv1).mono ?_; rintro e w1 ⟨ds, rfl, d1, d2, d3, d4, hb1⟩; have D4 := hide d4; clear d4)
      | (go_at_call 15; refine (parse_says ds v ceil d1 d2 d3 D4.out h0 h1 _).mono ?_; rintro e w2 ⟨rfl, hb⟩; rw [HE.out]))
    go_ret
    exact ⟨rfl, hb1.trans (hb.mono hb1.size)⟩
  · have HE := hide (show clamp v ceil = v by unfold clamp; rw [if_neg hc])
    go_enter Try.func6, Try.ntmps6
    go_wp2_with (first
      | (go_at_call 16; refine (itoa_pos v _ hv hv1).mono ?_; rintro e w1 ⟨ds, rfl, d1, d2, d3, d4, hb1⟩; have D4 := hide d4; clear d4)
      | (go_at_call 15; refine (parse_says ds v ceil d1 d2 d3 D4.out h0 h1 _).mono ?_; rintro e w2 ⟨rfl, hb⟩; rw [HE.out]))
    go_ret
    exact ⟨rfl, hb1.trans (hb.mono hb1.size)⟩

/-- FnParseDigitsReadsDecimalText: whatever the two numbers: true; nothing that was there has turned. -/
theorem text_any (v ceil : Int) (w : World) (hv1 : v ≤ 9223372036854775807) : Calls Try.prog 6 #[.int .i64 v, .int .i64 ceil] w fun e w' => e = .returned (.bool true) ∧ Below w.heap.size w w' := by
  by_cases hc : v < 0 ∨ ceil < 0 ∨ 922337203685477580 ≤ ceil
  · exact text_out v ceil w hc
  · by_cases h : v = 0
    · subst h; exact text_zero ceil w (by omega) (by omega)
    · exact text_pos v ceil w (by omega) hv1 (by omega) (by omega)

end Go.Proofs.Qxb6603033a
