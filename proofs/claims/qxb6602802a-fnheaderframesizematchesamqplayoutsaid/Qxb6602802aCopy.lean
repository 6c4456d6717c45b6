/-
  THE WALKS OF zzCopyStrings, zzCopyBytes, zzCopyHeaders. Own work.
-/
import Derived.Test.Qxb6602802aWitness
namespace Go.Proofs.Qxb6602802a
open Go.RowKit Go.Maps

theorem info9 : (Try.prog.info? 9).map (fun i => (i.zero, i.size, i.bytes)) = some (some (.string ⟨#[]⟩), 1, 16) := by kernel_rfl
theorem info5 : (Try.prog.info? 5).map (fun i => (i.zero, i.size, i.bytes)) = some (some (.int .u8 0), 1, 1) := by kernel_rfl

theorem makeStrs (n : Nat) (hn : n ≤ 1048576) : ∃ C : Array Value, C.size = n ∧ ∀ w : World, (Instr.makeSlice 24 (.int .i64 n) (.int .i64 n)).run Try.prog w = .ok (.slice (some ⟨w.heap.size, 0, none⟩) n n) (w.alloc (.cells C 9)) := by
  obtain ⟨i0, hi, hz0, hz1, hz2⟩ := info_parts info9
  refine ⟨madeCells (Value.string ⟨#[]⟩).cells n, size_madeCells _ _, fun w => ?_⟩
  have h := run_make (P := Try.prog) w 24 9 i0 _ Try.underlying24 hi hz0 .i64 .i64 n n (by omega) (by omega) (by rw [hz2]; omega) (by omega)
  rw [hz1] at h
  simpa using h

theorem makeBytes (n : Nat) (hn : n ≤ 1048576) : ∃ C : Array Value, C.size = n ∧ ∀ w : World, (Instr.makeSlice 22 (.int .i64 n) (.int .i64 n)).run Try.prog w = .ok (.slice (some ⟨w.heap.size, 0, none⟩) n n) (w.alloc (.cells C 5)) := by
  obtain ⟨i0, hi, hz0, hz1, hz2⟩ := info_parts info5
  refine ⟨madeCells (Value.int .u8 0).cells n, size_madeCells _ _, fun w => ?_⟩
  have h := run_make (P := Try.prog) w 22 5 i0 _ Try.underlying22 hi hz0 .i64 .i64 n n (by omega) (by omega) (by rw [hz2]; omega) (by omega)
  rw [hz1] at h
  simpa using h

/-- The call's own row of n cells, each of which may be written. -/
def Fresh (w : World) (B n : Nat) : Prop := ∀ j, j < n → (∃ v, w.cell? ⟨B, j, none⟩ = some v) ∧ w.frozen? ⟨B, j, none⟩ = false

theorem fresh_start (w : World) (C : Array Value) (t : TypeId) : Fresh (w.alloc (.cells C t)) w.heap.size C.size := by
  intro j hj
  refine ⟨⟨C[j], ?_⟩, ?_⟩
  · rw [World.cell?_alloc_at C t _ j rfl]; simp [hj]
  · rw [frozen?_alloc_cells]; simp [World.frozen?]

theorem Fresh.set {w : World} {B n : Nat} (h : Fresh w B n) (a : Addr) (v : Value) : Fresh (w.setCell a v) B n := by
  intro j hj
  obtain ⟨⟨u, hu⟩, hf⟩ := h j hj
  exact ⟨cell?_setCell_some hu, by rw [World.frozen?_setCell]; exact hf⟩

set_option maxRecDepth 100000 in
theorem copyStrings_nil (w : World) : Calls Try.prog 10 #[.slice none 0 0] w fun e w' => e = .returned (.slice none 0 0) ∧ w' = w := by
  have he := fun w => Lib.run_eql_slice_nil (P := Try.prog) w 24 9 none 0 0 0 0 Try.underlying24
  go_enter Try.func10, Try.ntmps10
  go_wp2
  go_ret
  exact ⟨rfl, rfl⟩

set_option maxRecDepth 100000 in
theorem copyStrings_some (a : Addr) (n c : Nat) (ss : List ByteArray) (w : World) (hS : SliceIs w (some a) n c (some ss)) (hn : n ≤ 1048576) :
    Calls Try.prog 10 #[.slice (some a) n c] w fun e w' => e = .returned (.slice (some ⟨w.heap.size, 0, none⟩) n n) ∧ SliceIs w' (some ⟨w.heap.size, 0, none⟩) n n (some ss) ∧ Below w.heap.size w w' := by
  have he := fun w => Lib.run_eql_slice_nil (P := Try.prog) w 24 9 (some a) n c 0 0 Try.underlying24
  obtain ⟨C, hC, hmk⟩ := makeStrs n hn
  go_enter Try.func10, Try.ntmps10
  go_wp2
  go_loopw [4] (fun i wr => ∃ k : Nat, k ≤ n ∧ i = .int .i64 k ∧ Fresh wr w.heap.size n ∧ (∀ j, j < k → wr.cell? ⟨w.heap.size, j, none⟩ = some (.string (ss.getD j ByteArray.empty))) ∧ Below w.heap.size w wr) (fun i _ => n - (intOf i).toNat)
  case atStart => exact ⟨0, Nat.zero_le _, rfl, hC ▸ fresh_start w C 9, fun j h => by omega, (Below.refl _ _).alloc (Nat.le_refl _) _⟩
  case round =>
    obtain ⟨k, hk, rfl, hfr, hcs, hnx⟩ := hrel
    have HCS := hide hcs
    clear hcs
    by_cases hlt : k < n
    · obtain ⟨b, off, ha, hb, hc⟩ := hS.at (by omega)
      cases ha
      obtain ⟨⟨old, hold⟩, hfz⟩ := hfr k hlt
      have hcell := (hnx.cell (p := ⟨b, off + k, none⟩) hb).trans (hc k hlt)
      obtain ⟨s, hs⟩ : ∃ s, s = ss.getD k ByteArray.empty := ⟨_, rfl⟩
      simp only [Option.getD_some, ← hs] at hcell
      have Hs := hide hs
      clear hs hc
      go_wp2
      go_roundw
      case rel =>
        refine ⟨k + 1, by omega, by go_num, hfr.set _ _, fun j hj => ?_, hnx.setCell (Nat.le_refl _) _⟩
        by_cases e : j = k
        · rw [e, ← Hs.out]; exact World.cell?_setCell_same _ _ _ hold
        · rw [World.cell?_setCell_other _ _ _ _ (by intro h; cases h; omega)]; exact HCS.out j (by omega)
      case measure => simp [intOf]; omega
    · go_wp2
      go_ret
      have e : k = n := by omega
      subst e
      refine ⟨rfl, ⟨hS.1, hS.2.1, hS.2.2.1, fun i hi => ?_⟩, hnx⟩
      have := HCS.out i hi
      rcases Nat.eq_zero_or_pos i with rfl | h
      · simpa [Addr.add] using this
      · simpa [Addr.add, show i ≠ 0 by omega] using this

/-- zzCopyStrings: a copy in new memory; nil stays nil. -/
theorem copyStrings_any (p : Option Addr) (n c : Nat) (x : Option (List ByteArray)) (w : World) (hS : SliceIs w p n c x) (hn : n ≤ 1048576) :
    Calls Try.prog 10 #[.slice p n c] w fun e w' => ∃ p' c', e = .returned (.slice p' n c') ∧ SliceIs w' p' n c' x ∧ Below w.heap.size w w' := by
  cases p with
  | none =>
    cases x with
    | none =>
      obtain ⟨rfl, rfl⟩ := hS
      refine (copyStrings_nil w).mono ?_
      rintro e w' ⟨rfl, rfl⟩
      exact ⟨none, 0, rfl, ⟨rfl, rfl⟩, Below.refl _ _⟩
    | some ss => exact hS.elim
  | some a =>
    cases x with
    | none => exact hS.elim
    | some ss =>
      refine (copyStrings_some a n c ss w hS hn).mono ?_
      rintro e w' ⟨rfl, h1, h2⟩
      exact ⟨_, _, rfl, h1, h2⟩

/-- A slice of bytes whose cells can be read. -/
def BytesAt (w : World) (p : Option Addr) (n c : Nat) : Prop :=
  match p with
  | none => n = 0 ∧ c = 0
  | some a => ∀ i, i < n → ∃ z, w.cell? (a.add i) = some (.int .u8 z)

theorem BytesAt.at {w : World} {a : Addr} {n c : Nat} (h : BytesAt w (some a) n c) (hn : 0 < n) :
    ∃ b off, a = ⟨b, off, none⟩ ∧ b < w.heap.size ∧ ∀ i, i < n → ∃ z, w.cell? ⟨b, off + i, none⟩ = some (.int .u8 z) := by
  obtain ⟨b, off, e⟩ := a
  have h0 := h 0 hn
  cases e with
  | none =>
    refine ⟨b, off, rfl, ?_, fun i hi => ?_⟩
    · obtain ⟨z, hz⟩ := h0; exact cell_path hz
    · obtain ⟨z, h1⟩ := h i hi
      refine ⟨z, ?_⟩
      rcases Nat.eq_zero_or_pos i with rfl | h
      · simpa [Addr.add] using h1
      · simpa [Addr.add, show i ≠ 0 by omega] using h1
  | some q =>
    obtain ⟨z, hz⟩ := h0
    simp only [World.cell?, Addr.add] at hz
    split at hz <;> cases hz

set_option maxRecDepth 100000 in
theorem copyBytes_some (a : Addr) (n c : Nat) (w : World) (hS : BytesAt w (some a) n c) (hn : n ≤ 1048576) :
    Calls Try.prog 8 #[.slice (some a) n c] w fun e w' => e = .returned (.slice (some ⟨w.heap.size, 0, none⟩) n n) ∧ Below w.heap.size w w' := by
  have he := fun w => Lib.run_eql_slice_nil (P := Try.prog) w 22 5 (some a) n c 0 0 Try.underlying22
  obtain ⟨C, hC, hmk⟩ := makeBytes n hn
  go_enter Try.func8, Try.ntmps8
  go_wp2
  go_loopw [4] (fun i wr => ∃ k : Nat, k ≤ n ∧ i = .int .i64 k ∧ Fresh wr w.heap.size n ∧ Below w.heap.size w wr) (fun i _ => n - (intOf i).toNat)
  case atStart => exact ⟨0, Nat.zero_le _, rfl, hC ▸ fresh_start w C 5, (Below.refl _ _).alloc (Nat.le_refl _) _⟩
  case round =>
    obtain ⟨k, hk, rfl, hfr, hnx⟩ := hrel
    by_cases hlt : k < n
    · obtain ⟨b, off, ha, hb, hc⟩ := hS.at (by omega)
      cases ha
      obtain ⟨⟨old, hold⟩, hfz⟩ := hfr k hlt
      obtain ⟨z, hz⟩ := hc k hlt
      have hcell := (hnx.cell (p := ⟨b, off + k, none⟩) hb).trans hz
      clear hc hz
      go_wp2
      go_roundw
      case rel => exact ⟨k + 1, by omega, by go_num, hfr.set _ _, hnx.setCell (Nat.le_refl _) _⟩
      case measure => simp [intOf]; omega
    · go_wp2
      go_ret
      exact ⟨rfl, hnx⟩

set_option maxRecDepth 100000 in
theorem copyBytes_nil (w : World) : Calls Try.prog 8 #[.slice none 0 0] w fun e w' => e = .returned (.slice none 0 0) ∧ w' = w := by
  have he := fun w => Lib.run_eql_slice_nil (P := Try.prog) w 22 5 none 0 0 0 0 Try.underlying22
  go_enter Try.func8, Try.ntmps8
  go_wp2
  go_ret
  exact ⟨rfl, rfl⟩

theorem copyBytes_any (p : Option Addr) (n c : Nat) (w : World) (hS : BytesAt w p n c) (hn : n ≤ 1048576) :
    Calls Try.prog 8 #[.slice p n c] w fun e w' => ∃ p' c', e = .returned (.slice p' n c') ∧ Below w.heap.size w w' := by
  cases p with
  | none =>
    obtain ⟨rfl, rfl⟩ := hS
    refine (copyBytes_nil w).mono ?_
    rintro e w' ⟨rfl, rfl⟩
    exact ⟨none, 0, rfl, Below.refl _ _⟩
  | some a =>
    refine (copyBytes_some a n c w hS hn).mono ?_
    rintro e w' ⟨rfl, h2⟩
    exact ⟨_, _, rfl, h2⟩

end Go.Proofs.Qxb6602802a
