/-
  THE WALKS OF zzHasKey, zzKeyBytes, zzValueBytes, zzWitness, zzWithin. Own work.
-/
import Derived.Test.Qxb6602802aBase
import Derived.Deep.QuietTactic
import Derived.BigQuiet
namespace Go.Proofs.Qxb6602802a
open Go.RowKit Go.Maps

def kb (ks : List ByteArray) : Int := (ks.map fun s => 32 + 2 * (s.size : Int)).sum

theorem kb_snoc (ks : List ByteArray) (k : Nat) (h : k < ks.length) : kb (ks.take (k + 1)) = kb (ks.take k) + (32 + 2 * ((ks.getD k ByteArray.empty).size : Int)) := by
  rw [List.take_succ_eq_append_getElem h]
  unfold kb
  rw [List.map_append, List.sum_append]
  simp [List.getElem?_eq_getElem h]

theorem kb_nonneg (ks : List ByteArray) : 0 ≤ kb ks := by
  induction ks with
  | nil => simp [kb]
  | cons s r ih => simp only [kb, List.map_cons, List.sum_cons] at *; omega

set_option maxRecDepth 100000 in
theorem hasKey_any (v : Option Nat) (m : Nat) (f : List UInt8 → Option Value) (s : ByteArray) (w : World) (hv : MapVal w v m f) (hs : s.size ≤ maxLen) :
    Calls Try.prog 15 #[.map v, .string s] w fun e w' => e = .returned (.bool (f s.data.toList).isSome) ∧ w' = w := by
  go_enter Try.func15, Try.ntmps15
  go_wp2_with (first
    | (at_lookup; refine wpList_look_ok _ rfl _ _ 23 rfl Try.underlying23 v m f rfl hv s rfl hs ?_; intro p n c hat)
    | go_in)
  go_ret
  exact ⟨rfl, rfl⟩

set_option maxRecDepth 100000 in
theorem keyBytes_any (p : Option Addr) (n c : Nat) (x : Option (List ByteArray)) (w : World) (hS : SliceIs w p n c x) :
    Calls Try.prog 16 #[.slice p n c] w fun e w' => ∃ r : Int, e = .returned (.int .i64 r) ∧ 0 ≤ r ∧ r ≤ 1048577 ∧ (r ≤ 1048576 → r = kb (x.getD [])) ∧ w' = w := by
  have hn := hS.le
  unfold maxLen at hn
  have hlen := hS.len
  go_enter Try.func16, Try.ntmps16
  go_wp2
  go_loop [3, 4] (fun t i => ∃ k : Nat, k ≤ n ∧ i = .int .i64 k ∧ t = .int .i64 (kb ((x.getD []).take k)) ∧ kb ((x.getD []).take k) ≤ 1048576) (fun _ i => n - (intOf i).toNat)
  case atStart => exact ⟨0, Nat.zero_le _, rfl, rfl, by simp [kb]⟩
  case round =>
    obtain ⟨k, hk, rfl, rfl, hle⟩ := hrel
    by_cases hlt : k < n
    · obtain ⟨b, off, rfl, hb, hc⟩ := hS.at (by omega)
      have hcell := hc k hlt
      have hsz := hS.size_at k
      have HS := hide (kb_snoc (x.getD []) k (by omega))
      have h0 := kb_nonneg ((x.getD []).take k)
      generalize (x.getD []).getD k ByteArray.empty = s at *
      unfold maxLen at hsz
      clear hc
      go_wp2
      · go_ret
        exact ⟨1048577, rfl, by omega, by omega, fun h => by omega, rfl⟩
      · go_ret
        exact ⟨1048577, rfl, by omega, by omega, fun h => by omega, rfl⟩
      · go_round
        case rel => exact ⟨k + 1, by omega, by go_num, by rw [HS.out], by rw [HS.out]; omega⟩
        case measure => simp [intOf]; omega
    · go_wp2
      go_ret
      have e : (x.getD []).take k = x.getD [] := List.take_of_length_le (by omega)
      rw [e] at hle ⊢
      exact ⟨_, rfl, kb_nonneg _, by omega, fun _ => rfl, rfl⟩

def bs (l : List ByteArray) : Int := (l.map fun s => (s.size : Int)).sum

theorem bs_snoc (l : List ByteArray) (k : Nat) (h : k < l.length) : bs (l.take (k + 1)) = bs (l.take k) + ((l.getD k ByteArray.empty).size : Int) := by
  rw [List.take_succ_eq_append_getElem h]
  unfold bs
  rw [List.map_append, List.sum_append]
  simp [List.getElem?_eq_getElem h]

theorem bs_nonneg (l : List ByteArray) : 0 ≤ bs l := by
  induction l with
  | nil => simp [bs]
  | cons s r ih => simp only [bs, List.map_cons, List.sum_cons] at *; omega

/-- The bytes of one value list. -/
def vb1 (F : List UInt8 → Option (Option (List ByteArray))) (s : ByteArray) : Int := 24 + 16 * (((lookF F s).getD []).length : Int) + bs ((lookF F s).getD [])

def vb (F : List UInt8 → Option (Option (List ByteArray))) (ks : List ByteArray) : Int := (ks.map (vb1 F)).sum

theorem vb_snoc (F : List UInt8 → Option (Option (List ByteArray))) (ks : List ByteArray) (k : Nat) (h : k < ks.length) : vb F (ks.take (k + 1)) = vb F (ks.take k) + vb1 F (ks.getD k ByteArray.empty) := by
  rw [List.take_succ_eq_append_getElem h]
  unfold vb
  rw [List.map_append, List.sum_append]
  simp [List.getElem?_eq_getElem h]

theorem vb_nonneg (F : List UInt8 → Option (Option (List ByteArray))) (ks : List ByteArray) : 0 ≤ vb F ks := by
  induction ks with
  | nil => simp [vb]
  | cons s r ih =>
    have := bs_nonneg ((lookF F s).getD [])
    simp only [vb, List.map_cons, List.sum_cons, vb1] at *
    omega

set_option maxRecDepth 100000 in
theorem valueBytes_any (v : Option Nat) (m : Nat) (F : List UInt8 → Option (Option (List ByteArray))) (p : Option Addr) (n c : Nat) (x : Option (List ByteArray)) (w : World) (hH : HdrAt w v m F) (hS : SliceIs w p n c x) :
    Calls Try.prog 17 #[.map v, .slice p n c] w fun e w' => ∃ r : Int, e = .returned (.int .i64 r) ∧ 0 ≤ r ∧ r ≤ 1048577 ∧ (r ≤ 1048576 → r = vb F (x.getD [])) ∧ w' = w := by
  have hn := hS.le
  unfold maxLen at hn
  have hlen := hS.len
  obtain ⟨f, hM, hF⟩ := hH
  have HF := hide hF
  clear hF
  go_enter Try.func17, Try.ntmps17
  go_wp2
  go_loop [5, 6] (fun t i => ∃ k : Nat, k ≤ n ∧ i = .int .i64 k ∧ t = .int .i64 (vb F ((x.getD []).take k)) ∧ vb F ((x.getD []).take k) ≤ 1048576) (fun _ i => n - (intOf i).toNat)
  case atStart => exact ⟨0, Nat.zero_le _, rfl, rfl, by simp [vb]⟩
  case round =>
    obtain ⟨k, hk, rfl, rfl, hle⟩ := hrel
    by_cases hlt : k < n
    · obtain ⟨b, off, rfl, hb, hc⟩ := hS.at (by omega)
      have hcell := hc k hlt
      have hsz := hS.size_at k
      have HS := hide (vb_snoc F (x.getD []) k (by omega))
      have h0 := vb_nonneg F ((x.getD []).take k)
      generalize (x.getD []).getD k ByteArray.empty = s at *
      generalize vb F ((x.getD []).take k) = t0 at *
      clear hc
      go_wp2_with (first
        | (at_lookup; refine wpList_look _ rfl _ _ 23 rfl Try.underlying23 v m f rfl hM s rfl hsz ?_; intro q l cq hat; have hSl := hdr_look HF.out s hat; have hl := hSl.le; unfold maxLen at hl; clear hat)
        | go_in)
      · go_ret
        exact ⟨1048577, rfl, by omega, by omega, fun h => by omega, rfl⟩
      · go_ret
        exact ⟨1048577, rfl, by omega, by omega, fun h => by omega, rfl⟩
      · have hll := hSl.len
        have HV := hide (show vb1 F s = 24 + 16 * (((lookF F s).getD []).length : Int) + bs ((lookF F s).getD []) from rfl)
        go_loop [5, 8] (fun t i => ∃ j : Nat, j ≤ l ∧ i = .int .i64 j ∧ t = .int .i64 (t0 + (24 + 16 * (l : Int)) + bs (((lookF F s).getD []).take j)) ∧ t0 + (24 + 16 * (l : Int)) + bs (((lookF F s).getD []).take j) ≤ 1048576) (fun _ i => l - (intOf i).toNat)
        case atStart => exact ⟨0, Nat.zero_le _, rfl, by simp [bs], by simp [bs]; omega⟩
        case round =>
          obtain ⟨j, hj, rfl, rfl, hle2⟩ := hrel
          by_cases hjl : j < l
          · obtain ⟨b2, off2, rfl, hb2, hc2⟩ := hSl.at (by omega)
            have hcell2 := hc2 j hjl
            have hsz2 := hSl.size_at j
            have HS2 := hide (bs_snoc ((lookF F s).getD []) j (by omega))
            have h02 := bs_nonneg (((lookF F s).getD []).take j)
            generalize ((lookF F s).getD []).getD j ByteArray.empty = s2 at *
            unfold maxLen at hsz2
            clear hc2
            go_wp2
            · go_ret
              exact ⟨1048577, rfl, by omega, by omega, fun h => by omega, rfl⟩
            · go_ret
              exact ⟨1048577, rfl, by omega, by omega, fun h => by omega, rfl⟩
            · go_round
              case rel => exact ⟨j + 1, by omega, by go_num, by rw [HS2.out, Int.add_assoc], by rw [HS2.out]; omega⟩
              case measure => simp [intOf]; omega
          · have e : ((lookF F s).getD []).take j = (lookF F s).getD [] := List.take_of_length_le (by omega)
            rw [e] at hle2 ⊢
            go_wp2
            go_round
            case rel => exact ⟨k + 1, by omega, by go_num, by rw [HS.out, HV.out, hll]; go_num, by rw [HS.out, HV.out, hll]; omega⟩
            case measure => simp [intOf]; omega
    · go_wp2
      go_ret
      have e : (x.getD []).take k = x.getD [] := List.take_of_length_le (by omega)
      rw [e] at hle ⊢
      exact ⟨_, rfl, vb_nonneg _ _, by omega, fun _ => rfl, rfl⟩

end Go.Proofs.Qxb6602802a
