/-
  THE WALK OF FnParseDigitsSpec, a text of digits. Own work.
-/
import Derived.Test.Qxb6603033aSpec
namespace Go.Proofs.Qxb6603033a
open Go.RowKit

/-- The first k bytes are noughts. -/
def zerosTo (s : ByteArray) (k : Nat) : Prop := zeros (s.data.toList.take k) = true

theorem zerosTo_start (s : ByteArray) : zerosTo s 0 := by simp [zerosTo, zeros]

theorem zerosTo_step (s : ByteArray) (k : Nat) (h : k < s.size) (h1 : zerosTo s k) (h2 : (s[k].toNat : Int) = 48) : zerosTo s (k + 1) := by
  unfold zerosTo zeros at *
  rw [take_snoc _ k (by simpa using h), List.all_append, h1, at_list s k h]
  have e : s[k] = 48 := by
    apply UInt8.toNat_inj.1
    rw [show (48 : UInt8).toNat = 48 from rfl]
    omega
  simp [e]

/-- What has been read behind j bytes. -/
def valTo (s : ByteArray) (j : Nat) : Int := val (s.data.toList.take j)

theorem valTo_zeros (s : ByteArray) (k : Nat) (h : zerosTo s k) : valTo s k = 0 := val_take_zeros _ _ h

theorem valTo_step (s : ByteArray) (j : Nat) (h : j < s.size) : valTo s (j + 1) = valTo s j * 10 + ((s[j].toNat : Int) - 48) := by
  unfold valTo
  rw [take_snoc _ j (by simpa using h), val_snoc, at_list s j h]

theorem valTo_nonneg (s : ByteArray) (j : Nat) (hd : s.data.toList.all isD = true) : 0 ≤ valTo s j :=
  valFrom_nonneg _ 0 (by omega) (fun c hc => List.all_eq_true.1 hd c (List.mem_of_mem_take hc))

theorem valTo_small (s : ByteArray) (k j : Nat) (hz : zerosTo s k) (hd : s.data.toList.all isD = true) (h : k ≤ j) (hj : j - k ≤ 17) : valTo s j ≤ 99999999999999999 := by
  have h1 := val_take_le s.data.toList k j hz hd h
  have h2 := pow_le_17 (j - k) hj
  unfold valTo
  omega

theorem valTo_end (s : ByteArray) : valTo s s.size = val s.data.toList := by
  unfold valTo
  rw [List.take_of_length_le (by simp)]

theorem digit_at (s : ByteArray) (k : Nat) (h : k < s.size) (hd : s.data.toList.all isD = true) : 48 ≤ (s[k].toNat : Int) ∧ (s[k].toNat : Int) ≤ 57 := by
  have h1 := List.all_eq_true.1 hd (s.data.toList[k]'(by simpa using h)) (List.getElem_mem _)
  rw [at_list s k h, isD_iff] at h1
  omega

theorem great_at (s : ByteArray) (k : Nat) (h : k < s.size) (hz : zerosTo s k) (hd : s.data.toList.all isD = true) (h48 : (s[k].toNat : Int) ≠ 48) (hn : 18 < s.size - k) : 1000000000000000000 ≤ val s.data.toList := by
  refine val_great s.data.toList k (by simpa using h) hz hd ?_ (by simpa using hn)
  rw [at_list s k h]
  intro e
  apply h48
  rw [e]
  rfl

set_option maxRecDepth 100000 in
set_option maxHeartbeats 2000000 in
theorem spec_good (s : ByteArray) (ceil : Int) (w : World) (hle : s.size ≤ 1048576) (hne : 0 < s.size) (h0 : 0 ≤ ceil) (h1 : ceil ≤ 922337203685477579) (hgood : s.data.toList.all isD = true) : Calls Try.prog 5 #[.string s, .int .i64 ceil] w fun e w' => e = .returned (.bool true) ∧ Below w.heap.size w w' := by
  have HP := hide (zparse_any s ceil)
  have e0 : s.data.toList.isEmpty = false := by
    have hlen : s.data.toList.length = s.size := by simp
    cases h : s.data.toList with
    | nil =>
      rw [h] at hlen
      simp at hlen
      omega
    | cons a l => rfl
  have e1 : pdN s.data.toList ceil = clamp (val s.data.toList) ceil := by unfold pdN; rw [e0, hgood]; rfl
  have e2 : pdOk s.data.toList = true := by unfold pdOk; rw [e0, hgood]; rfl
  rw [e1, e2] at HP
  have HB := hide hgood
  obtain ⟨N, hN⟩ : ∃ N, N = clamp (val s.data.toList) ceil := ⟨_, rfl⟩
  rw [← hN] at HP
  have HN := hide hN
  clear e0 e1 e2 hgood hN
  have hn0 : ((s.size : Int) == 0) = false := beq_eq_false_iff_ne.2 (by omega)
  go_enter Try.func5, Try.ntmps5
  go_wp2_with (first
    | (go_at_call 14; refine (zzb_small s ceil _ hle).mono ?_; rintro e w1 ⟨rfl, rfl⟩)
    | (go_at_call 15; refine (HP.out _ hle h0 h1).mono ?_; rintro e w2 ⟨rfl, hb⟩))
  go_loop [7] (fun i => ∃ k : Nat, k ≤ s.size ∧ i = .int .i64 k) (fun i => s.size - (intOf i).toNat)
  case atStart => exact ⟨0, Nat.zero_le _, rfl⟩
  case round =>
    obtain ⟨k, hk, rfl⟩ := hrel
    by_cases hlt : k < s.size
    · obtain ⟨d1, d2⟩ := digit_at s k hlt HB.out
      go_wp2
      go_round
      case rel => exact ⟨k + 1, by omega, by go_num⟩
      case measure => simp [intOf]; omega
    · go_wp2
      go_loop [8] (fun i => ∃ z : Nat, z ≤ s.size ∧ i = .int .i64 z ∧ zerosTo s z) (fun i => s.size - (intOf i).toNat)
      case atStart => exact ⟨0, Nat.zero_le _, rfl, zerosTo_start s⟩
      case round =>
        obtain ⟨z, hz, rfl, hzt⟩ := hrel
        by_cases hzl : z < s.size
        · by_cases h48 : (s[z].toNat : Int) = 48
          · have h48' : ((s[z].toNat : Int) == 48) = true := beq_iff_eq.2 h48
            have HZS := hide (zerosTo_step s z hzl hzt h48)
            clear h48
            go_wp2
            go_round
            case rel => exact ⟨z + 1, by omega, by go_num, HZS.out⟩
            case measure => simp [intOf]; omega
          · by_cases h18 : 18 < s.size - z
            · have hg := great_at s z hzl hzt HB.out h48 h18
              have hNe : (N == ceil) = true := beq_iff_eq.2 (by rw [HN.out]; unfold clamp; rw [if_pos (by omega)])
              clear hg
              go_wp2
              go_ret
              exact ⟨rfl, hb⟩
            · go_wp2
              have hs18 : s.size - z ≤ 18 := by omega
              go_loop [9, 10] (fun v i => ∃ j : Nat, z ≤ j ∧ j ≤ s.size ∧ i = .int .i64 j ∧ v = .int .i64 (valTo s j)) (fun _ i => s.size - (intOf i).toNat)
              case atStart => exact ⟨z, Nat.le_refl _, hz, rfl, by rw [valTo_zeros s z hzt]⟩
              case round =>
                obtain ⟨j, hzj, hj, rfl, rfl⟩ := hrel
                by_cases hjl : j < s.size
                · obtain ⟨d1, d2⟩ := digit_at s j hjl HB.out
                  have v0 := valTo_nonneg s j HB.out
                  have v1 := valTo_small s z j hzt HB.out hzj (by omega)
                  have HST := hide (valTo_step s j hjl)
                  generalize valTo s j = t at *
                  go_wp2
                  go_round
                  case rel => exact ⟨j + 1, by omega, by omega, by go_num, by rw [HST.out]⟩
                  case measure => simp [intOf]; omega
                · have ej : j = s.size := by omega
                  subst ej
                  have hNv : N = clamp (valTo s s.size) ceil := by rw [HN.out, valTo_end]
                  generalize valTo s s.size = t at *
                  by_cases hc : ceil < t
                  · have hNe : (N == ceil) = true := beq_iff_eq.2 (by rw [hNv]; unfold clamp; rw [if_pos hc])
                    clear hNv
                    go_wp2
                    go_ret
                    exact ⟨rfl, hb⟩
                  · have hNe : (N == t) = true := beq_iff_eq.2 (by rw [hNv]; unfold clamp; rw [if_neg hc])
                    clear hNv
                    go_wp2
                    go_ret
                    exact ⟨rfl, hb⟩
        · go_wp2
          have hs18 : s.size - z ≤ 18 := by omega
          go_loop [9, 10] (fun v i => ∃ j : Nat, z ≤ j ∧ j ≤ s.size ∧ i = .int .i64 j ∧ v = .int .i64 (valTo s j)) (fun _ i => s.size - (intOf i).toNat)
          case atStart => exact ⟨z, Nat.le_refl _, hz, rfl, by rw [valTo_zeros s z hzt]⟩
          case round =>
            obtain ⟨j, hzj, hj, rfl, rfl⟩ := hrel
            by_cases hjl : j < s.size
            · obtain ⟨d1, d2⟩ := digit_at s j hjl HB.out
              have v0 := valTo_nonneg s j HB.out
              have v1 := valTo_small s z j hzt HB.out hzj (by omega)
              have HST := hide (valTo_step s j hjl)
              generalize valTo s j = t at *
              go_wp2
              go_round
              case rel => exact ⟨j + 1, by omega, by omega, by go_num, by rw [HST.out]⟩
              case measure => simp [intOf]; omega
            · have ej : j = s.size := by omega
              subst ej
              have hNv : N = clamp (valTo s s.size) ceil := by rw [HN.out, valTo_end]
              generalize valTo s s.size = t at *
              by_cases hc : ceil < t
              · have hNe : (N == ceil) = true := beq_iff_eq.2 (by rw [hNv]; unfold clamp; rw [if_pos hc])
                clear hNv
                go_wp2
                go_ret
                exact ⟨rfl, hb⟩
              · have hNe : (N == t) = true := beq_iff_eq.2 (by rw [hNv]; unfold clamp; rw [if_neg hc])
                clear hNv
                go_wp2
                go_ret
                exact ⟨rfl, hb⟩

/-- FnParseDigitsSpec: whatever the text and the ceiling: true; nothing that was there has turned. -/
theorem spec_any (s : ByteArray) (ceil : Int) (w : World) (hs : s.size ≤ maxLen) : Calls Try.prog 5 #[.string s, .int .i64 ceil] w fun e w' => e = .returned (.bool true) ∧ Below w.heap.size w w' := by
  by_cases hsz : s.size ≤ 1048576
  · by_cases hc : ceil < 0 ∨ 922337203685477580 ≤ ceil
    · exact spec_out s ceil w hsz hc
    · by_cases h0 : s.size = 0
      · exact spec_empty s ceil w h0 (by omega) (by omega)
      · cases hg : s.data.toList.all isD
        · exact spec_bad s ceil w hsz (by omega) (by omega) (by omega) hg
        · exact spec_good s ceil w hsz (by omega) (by omega) (by omega) hg
  · exact spec_big s ceil w hs hsz

end Go.Proofs.Qxb6603033a
