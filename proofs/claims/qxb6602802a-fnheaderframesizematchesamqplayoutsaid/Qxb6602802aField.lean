/-
  THE WALK OF zzFieldSize. Own work.
-/
import Derived.Test.Qxb6602802aSum
namespace Go.Proofs.Qxb6602802a
open Go.RowKit Go.Maps

theorem ret_int {k : IntKind} {a b : Int} (h : a = b) : Ending.returned (.int k a) = .returned (.int k b) := by rw [h]

set_option maxRecDepth 100000 in
theorem fieldSize_one (s : ByteArray) (p : Option Addr) (c : Nat) (x : Option (List ByteArray)) (w : World) (hS : SliceIs w p 1 c x) (hb : fs s (x.getD []) ≤ 4194304) :
    Calls Try.prog 11 #[.string s, .slice p 1 c] w fun e w' => e = .returned (.int .i64 (fs s (x.getD []))) ∧ w' = w := by
  have hlen := hS.len
  obtain ⟨b, off, rfl, hbl, hc⟩ := hS.at (by omega)
  have hcell := hc 0 (by omega)
  have h1 := fs_one s (x.getD []) hlen
  have hbd := fs_bounds s (x.getD [])
  generalize (x.getD []).getD 0 ByteArray.empty = t at *
  rw [h1] at hb hbd ⊢
  obtain ⟨_, b2, _, _⟩ := hbd
  simp only [Nat.add_zero] at hcell
  clear h1 hc
  go_enter Try.func11, Try.ntmps11
  go_wp2
  go_ret
  exact ⟨ret_int (by omega), rfl⟩

set_option maxRecDepth 100000 in
theorem fieldSize_other (s : ByteArray) (p : Option Addr) (n c : Nat) (x : Option (List ByteArray)) (w : World) (hS : SliceIs w p n c x) (hn : n ≠ 1) (hb : fs s (x.getD []) ≤ 4194304) :
    Calls Try.prog 11 #[.string s, .slice p n c] w fun e w' => e = .returned (.int .i64 (fs s (x.getD []))) ∧ w' = w := by
  have hlen := hS.len
  have hH := hide (fs_other s (x.getD []) (by omega))
  have hbd := fs_bounds s (x.getD [])
  obtain ⟨b1, b2, b3, b4⟩ := hbd
  have h1 : ((n : Int) == 1) = false := beq_eq_false_iff_ne.2 (by omega)
  rw [hlen] at b3
  go_enter Try.func11, Try.ntmps11
  go_wp2
  go_loop [5, 6] (fun t i => ∃ k : Nat, k ≤ n ∧ i = .int .i64 k ∧ t = .int .i64 (6 + (s.size : Int) + 5 * (k : Int) + bs ((x.getD []).take k))) (fun _ i => n - (intOf i).toNat)
  case atStart => exact ⟨0, Nat.zero_le _, rfl, by simp [bs]; omega⟩
  case round =>
    obtain ⟨k, hk, rfl, rfl⟩ := hrel
    by_cases hlt : k < n
    · obtain ⟨b, off, rfl, hbl, hc⟩ := hS.at (by omega)
      have hcell := hc k hlt
      have hsz := hS.size_at k
      have HS := hide (bs_snoc (x.getD []) k (by omega))
      have h0 := bs_nonneg ((x.getD []).take k)
      have hle : bs ((x.getD []).take (k + 1)) ≤ bs (x.getD []) := by
        have e : bs (x.getD []) = bs ((x.getD []).take (k + 1)) + bs ((x.getD []).drop (k + 1)) := by
          unfold bs
          rw [← List.sum_append, ← List.map_append, List.take_append_drop]
        have := bs_nonneg ((x.getD []).drop (k + 1))
        omega
      rw [HS.out] at hle
      generalize (x.getD []).getD k ByteArray.empty = t at *
      clear hc
      go_wp2
      go_round
      case rel => exact ⟨k + 1, by omega, by go_num, by rw [HS.out]; go_num⟩
      case measure => simp [intOf]; omega
    · go_wp2
      go_ret
      have e : (x.getD []).take k = x.getD [] := List.take_of_length_le (by omega)
      have e2 : k = n := by omega
      subst e2
      rw [e]
      exact ⟨ret_int (by rw [hH.out]; omega), rfl⟩

theorem fieldSize_any (s : ByteArray) (p : Option Addr) (n c : Nat) (x : Option (List ByteArray)) (w : World) (hS : SliceIs w p n c x) (hb : fs s (x.getD []) ≤ 4194304) :
    Calls Try.prog 11 #[.string s, .slice p n c] w fun e w' => e = .returned (.int .i64 (fs s (x.getD []))) ∧ w' = w := by
  by_cases hn : n = 1
  · subst hn; exact fieldSize_one s p c x w hS hb
  · exact fieldSize_other s p n c x w hS hn hb

end Go.Proofs.Qxb6602802a
