/-
  THE WALKS OF zzWitness, zzWithin. Own work.
-/
import Derived.Test.Qxb6602802aSizes
namespace Go.Proofs.Qxb6602802a
open Go.RowKit Go.Maps

theorem MapVal.drewN {w : World} {v : Option Nat} {m : Nat} {f : List UInt8 → Option Value} (h : MapVal w v m f) (q : Nat) : MapVal (w.drewN q) v m f := by
  cases v with
  | none => exact h
  | some b => exact MapAt.kept h rfl

set_option maxRecDepth 100000 in
theorem witness_any (v : Option Nat) (m : Nat) (f : List UInt8 → Option Value) (p : Option Addr) (n c : Nat) (x : Option (List ByteArray)) (w : World) (hM : MapVal w v m f) (hmn : m ≤ maxLen) (hS : SliceIs w p n c x) :
    Calls Try.prog 18 #[.map v, .slice p n c] w fun e w' => ∃ r : Bool, e = .returned (.bool r) ∧ (∃ q, w' = w.drewN q) ∧
      (r = true → m = n ∧ (∀ a, a < n → (f ((x.getD []).getD a ByteArray.empty).data.toList).isSome = true) ∧ ∀ a b, a < b → b < n → (x.getD []).getD a ByteArray.empty ≠ (x.getD []).getD b ByteArray.empty) := by
  have hn := hS.le
  unfold maxLen at hn hmn
  by_cases hmn' : m = n
  · subst hmn'
    go_enter Try.func18, Try.ntmps18
    go_wp2_with (first
      | (at_len; refine wpList_len _ rfl _ 23 rfl Try.underlying23 v m f rfl hM ?_)
      | go_in)
    go_loopw [5] (fun i wr => ∃ k q : Nat, k ≤ m ∧ i = .int .i64 k ∧ wr = w.drewN q ∧ (∀ a, a < k → (f ((x.getD []).getD a ByteArray.empty).data.toList).isSome = true) ∧ ∀ a b, a < b → b < k → (x.getD []).getD a ByteArray.empty ≠ (x.getD []).getD b ByteArray.empty) (fun i _ => m - (intOf i).toNat)
    case atStart => exact ⟨0, 0, Nat.zero_le _, rfl, rfl, fun a h => by omega, fun a b h1 h2 => by omega⟩
    case round =>
      obtain ⟨k, q, hk, rfl, rfl, hA, hB⟩ := hrel
      have HA := hide hA
      have HB := hide hB
      clear hA hB
      by_cases hlt : k < m
      · obtain ⟨b, off, rfl, hb, hc⟩ := hS.at (by omega)
        have hcell := hc k hlt
        have hsz := hS.size_at k
        have HC := hide hc
        clear hc
        obtain ⟨s, hs⟩ : ∃ s, s = (x.getD []).getD k ByteArray.empty := ⟨_, rfl⟩
        rw [← hs] at hcell hsz
        have Hs := hide hs
        clear hs
        cases hfs : (f s.data.toList).isSome
        · go_wp2_with (go_at_call 15; refine (hasKey_any v m f s _ (hM.drewN q) hsz).mono ?_; rintro e w' ⟨rfl, rfl⟩)
          go_ret
          exact ⟨false, rfl, ⟨q, rfl⟩, fun h => by cases h⟩
        · go_wp2_with (go_at_call 15; refine (hasKey_any v m f s _ (hM.drewN q) hsz).mono ?_; rintro e w' ⟨rfl, rfl⟩)
          go_loopw [6] (fun i wr => ∃ j q : Nat, j ≤ k ∧ i = .int .i64 j ∧ wr = w.drewN q ∧ ∀ a, a < j → (x.getD []).getD a ByteArray.empty ≠ s) (fun i _ => k - (intOf i).toNat)
          case atStart => exact ⟨0, q, Nat.zero_le _, rfl, rfl, fun a h => by omega⟩
          case round =>
            obtain ⟨j, q2, hj, rfl, rfl, hA2⟩ := hrel
            have HA2 := hide hA2
            clear hA2
            by_cases hjl : j < k
            · have hcell2 := HC.out j (by omega)
              obtain ⟨s2, hs2⟩ : ∃ s2, s2 = (x.getD []).getD j ByteArray.empty := ⟨_, rfl⟩
              rw [← hs2] at hcell2
              have Hs2 := hide hs2
              clear hs2
              have i1 : (k : Int) < (m : Int) := by omega
              have i2 : (j : Int) < (m : Int) := by omega
              go_wp2
              go_quiet (fail)
              go_wp2
              · go_ret
                exact ⟨false, rfl, ⟨q2 + nq, by simp⟩, fun h => by cases h⟩
              · have hne : (s2.toList == s.toList) = false := by assumption
                go_roundw
                case rel =>
                  refine ⟨j + 1, q2 + nq, by omega, by go_num, rfl, ?_⟩
                  intro a ha
                  by_cases h : a < j
                  · exact HA2.out a h
                  · rw [show a = j by omega, ← Hs2.out]
                    intro e
                    rw [e] at hne
                    simp at hne
                case measure => simp [intOf]; omega
            · go_wp2
              have e : j = k := by omega
              subst e
              go_roundw
              case rel =>
                refine ⟨j + 1, q2, by omega, by go_num, rfl, ?_, ?_⟩
                · intro a ha
                  by_cases h : a < j
                  · exact HA.out a h
                  · rw [show a = j by omega, ← Hs.out]; exact hfs
                · intro a b h1 h2
                  by_cases h : b < j
                  · exact HB.out a b h1 h
                  · rw [show b = j by omega, ← Hs.out]; exact HA2.out a (by omega)
              case measure => simp [intOf]; omega
      · go_wp2
        go_ret
        have e : k = m := by omega
        subst e
        exact ⟨true, rfl, ⟨q, rfl⟩, fun _ => ⟨by trivial, HA.out, HB.out⟩⟩
  · have hne : ((m : Int) == (n : Int)) = false := beq_eq_false_iff_ne.2 (by omega)
    go_enter Try.func18, Try.ntmps18
    go_wp2_with (first
      | (at_len; refine wpList_len _ rfl _ 23 rfl Try.underlying23 v m f rfl hM ?_)
      | go_in)
    go_ret
    exact ⟨false, rfl, ⟨0, rfl⟩, fun h => by cases h⟩

/-- What zzWithin's yes says. -/
structure Good (F : List UInt8 → Option (Option (List ByteArray))) (m : Nat) (ks : List ByteArray) (base : Int) : Prop where
  len : m = ks.length
  all : ∀ a, a < ks.length → (F (ks.getD a ByteArray.empty).data.toList).isSome = true
  apart : ∀ a b, a < b → b < ks.length → ks.getD a ByteArray.empty ≠ ks.getD b ByteArray.empty
  bytes : base + kb ks + vb F ks ≤ 1048576

set_option maxRecDepth 100000 in
theorem within_any (base : Int) (v : Option Nat) (m : Nat) (F : List UInt8 → Option (Option (List ByteArray))) (p : Option Addr) (n c : Nat) (x : Option (List ByteArray)) (w : World) (h0 : 0 ≤ base) (h1 : base ≤ 9000000) (hH : HdrAt w v m F) (hm : m ≤ maxLen) (hS : SliceIs w p n c x) :
    Calls Try.prog 7 #[.int .i64 base, .map v, .slice p n c] w fun e w' => ∃ r : Bool, e = .returned (.bool r) ∧ (∃ q, w' = w.drewN q) ∧ (r = true → Good F m (x.getD []) base) := by
  have hlen := hS.len
  have hM := hH
  obtain ⟨f, hM, hF⟩ := hM
  have HF := hide hF
  clear hF
  go_enter Try.func7, Try.ntmps7
  go_wp2_with (first
    | (go_at_call 16; refine (keyBytes_any p n c x _ hS).mono ?_; rintro e w' ⟨r1, rfl, hr1, hr2, hr3, rfl⟩; have HR := hide hr3; clear hr3)
    | (go_at_call 17; refine (valueBytes_any v m F p n c x _ hH hS).mono ?_; rintro e w' ⟨r2, rfl, hr4, hr5, hr6, rfl⟩; have HR2 := hide hr6; clear hr6)
    | (go_at_call 18; refine (witness_any v m f p n c x _ hM hm hS).mono ?_; rintro e w' ⟨r3, rfl, ⟨q, rfl⟩, hr7⟩; have HR3 := hide hr7; clear hr7))
  all_goals go_ret
  · exact ⟨false, rfl, ⟨0, rfl⟩, fun h => by cases h⟩
  · exact ⟨false, rfl, ⟨0, rfl⟩, fun h => by cases h⟩
  · exact ⟨false, rfl, ⟨0, rfl⟩, fun h => by cases h⟩
  · refine ⟨r3, rfl, ⟨q, rfl⟩, fun h => ?_⟩
    obtain ⟨g1, g2, g3⟩ := HR3.out h
    have k1 := HR.out (by omega)
    have k2 := HR2.out (by omega)
    exact ⟨by omega, fun a ha => by rw [← hdr_isSome HF.out]; exact g2 a (by omega), fun a b hab hb => g3 a b hab (by omega), by omega⟩

end Go.Proofs.Qxb6602802a
