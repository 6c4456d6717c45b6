/-
  THE WALK OF b1Itoa. Own work.
-/
import Derived.Test.Qxb6603033aVals
namespace Go.Proofs.Qxb6603033a
open Go.RowKit

/-- The call's own row of n cells, each of which may be written. -/
def Fresh (w : World) (B n : Nat) : Prop := ∀ j, j < n → (∃ v, w.cell? ⟨B, j, none⟩ = some v) ∧ w.frozen? ⟨B, j, none⟩ = false

theorem fresh_start (w : World) (C : Array Value) (t : TypeId) : Fresh (w.alloc (.cells C t)) w.heap.size C.size := by
  intro j hj
  refine ⟨⟨C[j], ?_⟩, ?_⟩
  · rw [World.cell?_alloc_at C t _ j rfl]; simp [hj]
  · rw [frozen?_alloc_cells]; simp [World.frozen?]

theorem Fresh.set {w : World} {B n : Nat} (h : Fresh w B n) (a : Addr) (v : Value) : Fresh (w.setCell a v) B n := by
  intro j hj
  obtain ⟨⟨u, hu⟩, hf⟩ := h j hj
  exact ⟨cell?_setCell_some hu, by rw [World.frozen?_setCell]; exact hf⟩

/-- The digits ds lie in block B from k on. -/
def Laid (w : World) (B k : Nat) (ds : List UInt8) : Prop := ∀ j (h : j < ds.length), w.cell? ⟨B, k + j, none⟩ = some (.int .u8 (ds[j].toNat : Int))

theorem Laid.push {w : World} {B k : Nat} {ds : List UInt8} (h : Laid w B (k + 1) ds) (d : UInt8) (hold : ∃ v, w.cell? ⟨B, k, none⟩ = some v) : Laid (w.setCell ⟨B, k, none⟩ (.int .u8 (d.toNat : Int))) B k (d :: ds) := by
  intro j hj
  obtain ⟨v, hv⟩ := hold
  cases j with
  | zero => exact World.cell?_setCell_same _ _ _ hv
  | succ j =>
    rw [World.cell?_setCell_other _ _ _ _ (by intro e; injection e with _ e2 _; omega)]
    have := h j (by simpa using hj)
    rw [show k + (j + 1) = k + 1 + j by omega]
    simpa using this

theorem valFrom_split : ∀ (l : List UInt8) (n : Int), valFrom n l = n * 10 ^ l.length + valFrom 0 l
  | [], n => by simp [valFrom]
  | c :: l, n => by
    rw [valFrom_cons, valFrom_cons, valFrom_split l (n * 10 + ((c.toNat : Int) - 48)), valFrom_split l (0 * 10 + ((c.toNat : Int) - 48))]
    rw [List.length_cons, Int.pow_succ, Int.add_mul, Int.zero_mul, Int.zero_add, ← Int.add_assoc]
    rw [Int.mul_comm (10 ^ l.length) 10, Int.mul_assoc]

/-- A text of digits. -/
def AllD (ds : List UInt8) : Prop := ds.all isD = true

/-- What the loop keeps: v in front of the digits ds says v0. -/
def Says (v0 v : Int) (ds : List UInt8) : Prop := v0 = valFrom v ds ∧ ds.all isD = true

theorem says_step {v0 v : Int} {ds : List UInt8} (h : Says v0 v ds) (_hv : 0 < v) (d : UInt8) (hd : (d.toNat : Int) = 48 + v % 10) : Says v0 (v / 10) (d :: ds) := by
  obtain ⟨h1, h2⟩ := h
  refine ⟨?_, ?_⟩
  · rw [valFrom_cons, hd, h1]
    congr 1
    omega
  · rw [List.all_cons, h2, Bool.and_true, isD_iff]
    omega

theorem says_room {v0 v : Int} {ds : List UInt8} (h : Says v0 v ds) (hv : 0 < v) (h0 : v0 ≤ 9223372036854775807) : ds.length ≤ 18 := by
  obtain ⟨h1, h2⟩ := h
  have h3 := valFrom_ge ds v (fun c hc => List.all_eq_true.1 h2 c hc)
  rw [← h1] at h3
  have hp : (0 : Int) ≤ 10 ^ ds.length := Int.pow_nonneg (by omega)
  have h4 : (1 : Int) * 10 ^ ds.length ≤ v * 10 ^ ds.length := Int.mul_le_mul_of_nonneg_right (by omega) hp
  by_cases h5 : ds.length ≤ 18
  · exact h5
  · have h6 : (10 : Int) ^ 19 ≤ 10 ^ ds.length := pow10_mono (by omega)
    have h7 : (10 : Int) ^ 19 = 10000000000000000000 := by decide
    omega

theorem len36 : Try.prog.arrayLen 36 = 20 := by kernel_rfl
theorem elem36 (w : World) : (sizeOf (Try.prog.elem 36)).run Try.prog w = .ok 1 w := by kernel_rfl

/-- 'buf[k:]'. -/
theorem slice_buf (B k : Nat) (w : World) (hk : k < 20) : (Instr.sliceAt 36 (.pointer (some ⟨B, 0, none⟩)) (some (.int .i64 (k : Int))) none none).run Try.prog w = .ok (.slice (some ⟨B, k, none⟩) (20 - k) (20 - k)) w := by
  have h := run_sliceAt_array_l (P := Try.prog) w 36 ⟨B, 0, none⟩ (by kernel_rfl) .i64 (k : Int) (by omega) (by rw [len36]; omega)
  rw [h, elem36 w, len36]
  have e : ¬ (20 = k) := by omega
  simp only [Result.andThen, slicedAt, Int.toNat_natCast, if_neg e, Nat.mul_one]
  rcases Nat.eq_zero_or_pos k with rfl | h2
  · simp [Addr.add]
  · simp [Addr.add, show k ≠ 0 by omega]

theorem to_string (B k : Nat) (ds : List UInt8) (w : World) (hlen : ds.length = 20 - k) (h : Laid w B k ds) : (convert 24 9 (.slice (some ⟨B, k, none⟩) (20 - k) (20 - k))).run Try.prog w = .ok (.string ⟨ds.toArray⟩) w := by
  rw [← hlen]
  refine run_convert_bytes_back w 24 9 5 ⟨B, k, none⟩ ds.length ds Try.underlying24 Try.underlying5 Try.underlying9 (fun j hj => ?_)
  have h1 := h j hj
  rcases Nat.eq_zero_or_pos j with rfl | h2
  · simpa [Addr.add] using h1
  · simpa [Addr.add, show j ≠ 0 by omega] using h1

theorem digit_of (x : Int) : ∃ d : UInt8, (d.toNat : Int) = 48 + x % 10 := by
  refine ⟨UInt8.ofNat (48 + x % 10).toNat, ?_⟩
  rw [UInt8.toNat_ofNat_of_lt' (by have : UInt8.size = 256 := rfl; omega)]
  omega

set_option maxRecDepth 100000 in
theorem itoa_zero (w : World) : Calls Try.prog 16 #[.int .i64 0] w fun e w' => e = .returned (.string ⟨#[48]⟩) ∧ w' = w := by
  go_enter Try.func16, Try.ntmps16
  go_wp2
  go_ret
  exact ⟨rfl, rfl⟩

set_option maxRecDepth 100000 in
set_option maxHeartbeats 1000000 in
theorem itoa_pos (v0 : Int) (w : World) (h0 : 0 < v0) (h1 : v0 ≤ 9223372036854775807) :
    Calls Try.prog 16 #[.int .i64 v0] w fun e w' => ∃ ds : List UInt8, e = .returned (.string ⟨ds.toArray⟩) ∧ ds.length ≤ 20 ∧ 0 < ds.length ∧ AllD ds ∧ val ds = v0 ∧ Below w.heap.size w w' := by
  go_enter Try.func16, Try.ntmps16
  go_wp2
  go_loopw [0, 4] (fun v i wr => ∃ (k : Nat) (x : Int) (ds : List UInt8), k ≤ 20 ∧ i = .int .i64 k ∧ v = .int .i64 x ∧ 0 ≤ x ∧ x ≤ v0 ∧ ds.length = 20 - k ∧ Says v0 x ds ∧ Fresh wr w.heap.size 20 ∧ Laid wr w.heap.size k ds ∧ Below w.heap.size w wr) (fun _ i _ => (intOf i).toNat)
  case atStart => exact ⟨20, v0, [], by omega, rfl, rfl, by omega, by omega, rfl, ⟨rfl, rfl⟩, fresh_start w _ _, fun j h => by simp at h, (Below.refl _ _).alloc (Nat.le_refl _) _⟩
  case round =>
    obtain ⟨k, x, ds, hk, rfl, rfl, hx0, hx1, hlen, hsays, hfr, hlaid, hnx⟩ := hrel
    by_cases hpos : 0 < x
    · have hroom := says_room hsays hpos h1
      have hk1 : 2 ≤ k := by omega
      obtain ⟨m, rfl⟩ : ∃ m, k = m + 1 := ⟨k - 1, by omega⟩
      obtain ⟨hold, hfz⟩ := hfr m (by omega)
      have HOLD := hide hold
      obtain ⟨old, hcell⟩ := hold
      have r0 : 0 ≤ x % 10 := by omega
      have r1 : x % 10 ≤ 9 := by omega
      obtain ⟨d, hd⟩ := digit_of x
      have HD := hide hd
      have HL := hide hlen
      clear hd hlen
      go_wp2
      go_roundw
      case rel =>
        rw [← HD.out]
        exact ⟨m, x / 10, d :: ds, by omega, rfl, rfl, by omega, by omega, by rw [List.length_cons, HL.out]; omega, says_step hsays hpos d HD.out, hfr.set _ _, hlaid.push d HOLD.out, hnx.setCell (Nat.le_refl _) _⟩
      case measure => simp [intOf]
    · have hx : x = 0 := by omega
      subst hx
      obtain ⟨q1, q2⟩ := hsays
      have hds : 0 < ds.length := by
        cases ds with
        | nil => simp [valFrom] at q1; omega
        | cons a l => simp
      have hk2 : k < 20 := by omega
      have hsl := slice_buf w.heap.size k wr hk2
      have hst := to_string w.heap.size k ds wr hlen hlaid
      have Q1 := hide q1
      have Q2 := hide q2
      clear q1 q2
      go_wp2
      go_ret
      exact ⟨ds, rfl, by omega, hds, Q2.out, Q1.out.symm, hnx⟩

end Go.Proofs.Qxb6603033a
