/-
  THE WALKS OF parseDigits, ZZParseDigits. Own work.
-/
import Derived.Test.Qxb6603033aDigits
namespace Go.Proofs.Qxb6603033a
open Go.RowKit

theorem toBytes (s : ByteArray) (w : World) : ∃ cap W1, (convert 9 24 (.string s)).run Try.prog w = .ok (.slice (some ⟨w.heap.size, 0, none⟩) s.size cap) W1 ∧ Below w.heap.size w W1 ∧
    ∀ j (h : j < s.data.toList.length), W1.cell? ⟨w.heap.size, j, none⟩ = some (.int .u8 ((s.data.toList[j]).toNat : Int)) := by
  refine ⟨_, _, run_bytes_of_string w 9 24 5 s Try.underlying9 Try.underlying24 Try.underlying5, (Below.refl _ _).drew.alloc (Nat.le_refl _) _, fun j h => ?_⟩
  have e := World.cell?_alloc_mark w.drew (bytesRow s (grownCap w s.size 0 5)) 5 ((bytesRow s (grownCap w s.size 0 5)).size, (bytesRow s (grownCap w s.size 0 5)).size + 1) j
  have h2 : j < s.data.size := by simpa using h
  rw [bytesRow_at s _ j h2] at e
  simpa using e

set_option maxRecDepth 100000 in
theorem parse_empty (s : ByteArray) (ceil : Int) (w : World) (hs : s.toList.isEmpty = true) :
    Calls Try.prog 23 #[.string s, .int .i64 ceil] w fun e w' => e = .returned (.tuple #[.int .i64 0, .bool false]) ∧ Below w.heap.size w w' := by
  go_enter Try.func23, Try.ntmps23
  go_wp2
  go_ret2
  exact ⟨rfl, Below.refl _ _⟩

/-- What 'parseDigits' answers at a text that is not empty. -/
def pdAns (l : List UInt8) (ceil : Int) : Value := if l.all isD then .tuple #[.int .i64 (clamp (val l) ceil), .bool true] else .tuple #[.int .i64 0, .bool false]

theorem all_take_step (l : List UInt8) (k : Nat) (h : k < l.length) (h1 : (l.take k).all isD = true) (h2 : isD l[k] = true) : (l.take (k + 1)).all isD = true := by
  rw [take_snoc l k h, List.all_append, h1]
  simp [h2]

theorem not_all (l : List UInt8) (k : Nat) (h : k < l.length) (h2 : isD l[k] = false) : l.all isD = false := by
  rw [List.all_eq_false]
  exact ⟨l[k], List.getElem_mem h, by rw [h2]; simp⟩

set_option maxRecDepth 100000 in
set_option maxHeartbeats 1000000 in
theorem parse_some (s : ByteArray) (ceil : Int) (w : World) (hsz : s.size ≤ 1048576) (hs : s.toList.isEmpty = false) (h0 : 0 ≤ ceil) (h1 : ceil ≤ 922337203685477579) :
    Calls Try.prog 23 #[.string s, .int .i64 ceil] w fun e w' => e = .returned (pdAns s.data.toList ceil) ∧ Below w.heap.size w w' := by
  obtain ⟨cap, W1, hcv, hbl, hcell⟩ := toBytes s w
  have HC := hide hcell
  clear hcell
  go_enter Try.func23, Try.ntmps23
  go_wp2
  have hlen : s.data.toList.length = s.size := by simp
  go_loop [6, 14] (fun t i => ∃ k : Nat, k ≤ s.size ∧ i = .int .i64 k ∧ t = .int .i64 (clamp (val (s.data.toList.take k)) ceil) ∧ (s.data.toList.take k).all isD = true) (fun _ i => s.size - (intOf i).toNat)
  case atStart => exact ⟨0, Nat.zero_le _, rfl, by simp [val, valFrom, clamp]; omega, by simp⟩
  case round =>
    obtain ⟨k, hk, rfl, rfl, hall⟩ := hrel
    have HALL := hide hall
    clear hall
    by_cases hlt : k < s.size
    · have hcell := HC.out k (by omega)
      have hv0 : 0 ≤ val (s.data.toList.take k) := valFrom_nonneg _ 0 (by omega) (fun c hc => List.all_eq_true.1 HALL.out c hc)
      have hn0 := clamp_nonneg _ ceil hv0 h0
      have hn1 := clamp_le (val (s.data.toList.take k)) ceil
      have HSN := hide (show val (s.data.toList.take (k + 1)) = val (s.data.toList.take k) * 10 + ((s.data.toList[k].toNat : Int) - 48) by rw [take_snoc _ k (by omega), val_snoc])
      have HST := hide (all_take_step s.data.toList k (by omega) HALL.out)
      have HNA := hide (not_all s.data.toList k (by omega))
      have hz := (s.data.toList[k]).toNat_lt
      have HI := hide (isD_iff s.data.toList[k])
      generalize s.data.toList[k] = c at *
      generalize hz2 : c.toNat = z at *
      have HZ := hide hz2
      clear hz2
      by_cases hd : 48 ≤ z ∧ z ≤ 57
      · obtain ⟨d1, d2⟩ := hd
        have HCS := hide (clamp_step (val (s.data.toList.take k)) ceil ((z : Int) - 48) hv0 h0 (by omega))
        have HID := hide (HI.out.2 ⟨d1, d2⟩)
        generalize clamp (val (s.data.toList.take k)) ceil = n0 at *
        clear hv0 HALL
        go_wp2
        go_round
        case rel => exact ⟨k + 1, by omega, by go_num, by rw [HSN.out, ← HCS.out]; rfl, HST.out HID.out⟩
        case measure => simp [intOf]; omega
      · have HND := hide (show isD c = false by
          cases h : isD c
          · rfl
          · exact absurd (HI.out.1 h) hd)
        have HAN := hide (show pdAns s.data.toList ceil = .tuple #[.int .i64 0, .bool false] by unfold pdAns; rw [HNA.out HND.out]; rfl)
        go_wp2
        all_goals go_ret2
        all_goals exact ⟨by rw [HAN.out]; rfl, hbl⟩
    · have e : s.data.toList.take k = s.data.toList := List.take_of_length_le (by omega)
      have h2 := HALL.out
      rw [e] at h2 ⊢
      have HAN := hide (show pdAns s.data.toList ceil = .tuple #[.int .i64 (clamp (val s.data.toList) ceil), .bool true] by unfold pdAns; rw [h2]; rfl)
      clear h2 e
      go_wp2
      go_ret2
      exact ⟨by rw [HAN.out]; rfl, hbl⟩

/-- What ZZParseDigits answers. -/
def pd (l : List UInt8) (ceil : Int) : Value := if l.isEmpty then .tuple #[.int .i64 0, .bool false] else pdAns l ceil

theorem parse_any (s : ByteArray) (ceil : Int) (w : World) (hsz : s.size ≤ 1048576) (h0 : 0 ≤ ceil) (h1 : ceil ≤ 922337203685477579) :
    Calls Try.prog 23 #[.string s, .int .i64 ceil] w fun e w' => e = .returned (pd s.data.toList ceil) ∧ Below w.heap.size w w' := by
  unfold pd
  cases hs : s.toList.isEmpty
  · have hs' := hs
    rw [ByteArray.toList_eq] at hs'
    rw [hs']
    exact parse_some s ceil w hsz hs h0 h1
  · have hs' := hs
    rw [ByteArray.toList_eq] at hs'
    rw [hs']
    exact parse_empty s ceil w hs

/-- The two parts of the answer. -/
def pdN (l : List UInt8) (ceil : Int) : Int := if l.isEmpty then 0 else if l.all isD then clamp (val l) ceil else 0
def pdOk (l : List UInt8) : Bool := !l.isEmpty && l.all isD

theorem pd_is (l : List UInt8) (ceil : Int) : pd l ceil = .tuple #[.int .i64 (pdN l ceil), .bool (pdOk l)] := by
  unfold pd pdAns pdN pdOk
  cases l.isEmpty <;> cases l.all isD <;> rfl

set_option maxRecDepth 100000 in
theorem zparse_any (s : ByteArray) (ceil : Int) (w : World) (hsz : s.size ≤ 1048576) (h0 : 0 ≤ ceil) (h1 : ceil ≤ 922337203685477579) :
    Calls Try.prog 15 #[.string s, .int .i64 ceil] w fun e w' => e = .returned (.tuple #[.int .i64 (pdN s.data.toList ceil), .bool (pdOk s.data.toList)]) ∧ Below w.heap.size w w' := by
  have HP := hide (pd_is s.data.toList ceil)
  go_enter Try.func15, Try.ntmps15
  go_wp2_with (go_at_call 23; refine (parse_any s ceil _ hsz h0 h1).mono ?_; rintro e w1 ⟨rfl, hb⟩; rw [HP.out])
  go_ret2
  exact ⟨rfl, hb⟩

end Go.Proofs.Qxb6603033a
