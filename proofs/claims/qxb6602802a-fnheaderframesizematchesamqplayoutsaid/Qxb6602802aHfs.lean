/-
  THE WALK OF headerFrameSize. Own work.
-/
import Derived.Test.Qxb6602802aField
namespace Go.Proofs.Qxb6602802a
open Go.RowKit Go.Maps

/-- L lists the keys of the contents, each once. -/
structure Cover (F : List UInt8 → Option (Option (List ByteArray))) (L : List ByteArray) : Prop where
  nodup : L.Nodup
  all : ∀ t ∈ L, (F t.data.toList).isSome = true
  dom : ∀ s : ByteArray, (F s.data.toList).isSome = true → s ∈ L

/-- The size of the entry at key s. -/
def gF (F : List UInt8 → Option (Option (List ByteArray))) (s : ByteArray) : Int := fs s ((lookF F s).getD [])

theorem gF_nonneg (F : List UInt8 → Option (Option (List ByteArray))) (s : ByteArray) : 0 ≤ gF F s := by
  have := (fs_bounds s ((lookF F s).getD [])).1
  unfold gF; omega

/-- What publishedHeaders is asked for, as headerFrameSize calls it. -/
def PubSays (id sub key : ByteArray) (pp : Option Addr) (pn pc : Nat) (v : Option Nat) (m : Nat) (F : List UInt8 → Option (Option (List ByteArray))) (M : Nat) (FF : List UInt8 → Option (Option (List ByteArray))) : Prop :=
  ∀ w, HdrAt w v m F → Calls Try.prog 20 #[.agg #[.string id, .string sub, .slice pp pn pc, .map v, .string key]] w fun e w' => ∃ vp, e = .returned (.map vp) ∧ HdrAt w' vp M FF ∧ Below w.heap.size w w'

theorem left_split (left : Lit → Bool) (s t : ByteArray) (h : t ≠ s) : (!((left (.string t.data.toList)) && !(Lit.string t.data.toList).sameKey (.string s.data.toList))) = !left (.string t.data.toList) := by
  rw [sameKey_ne (fun e => h (data_inj (by injection e)))]
  simp

theorem left_same (left : Lit → Bool) (s : ByteArray) : (!((left (.string s.data.toList)) && !(Lit.string s.data.toList).sameKey (.string s.data.toList))) = true := by
  rw [WideAt.sameKey_self (show WideAt.IsKeyLit (Lit.string s.data.toList) from trivial)]
  simp

theorem HdrAt.some_of {w : World} {v : Option Nat} {m : Nat} {F : List UInt8 → Option (Option (List ByteArray))} (h : HdrAt w v m F) (hm : 0 < m) : ∃ B, v = some B := by
  obtain ⟨f, h1, _⟩ := h
  cases v with
  | none => obtain ⟨rfl, _⟩ := h1; omega
  | some B => exact ⟨B, rfl⟩

/-- What a range's step hands out is what stands in the contents. -/
theorem entry_is {w : World} {D : DataW Value} {F : List UInt8 → Option (Option (List ByteArray))} {f : List UInt8 → Option Value} (hv : view D = f) (h : ∀ s, (F s = none ∧ f s = none) ∨ ∃ x p n c, F s = some x ∧ f s = some (.slice p n c) ∧ SliceIs w p n c x)
    {s : ByteArray} {p : Option Addr} {l c : Nat} (hat : ∀ zd, D.atKey (.string s.data.toList) zd = .held (.slice p l c)) : (F s.data.toList).isSome = true ∧ SliceIs w p l c (lookF F s) := by
  have hh : has D (.string s.data.toList) = true := has_true_of_atKey hat
  have hf : f s.data.toList = some (.slice p l c) := by
    rw [← hv]
    unfold view
    rw [hh, if_pos rfl, hat]
    rfl
  refine ⟨by rw [← hdr_isSome h, hf]; rfl, hdr_look h s (by rw [hf]; rfl)⟩

set_option maxRecDepth 100000 in
set_option maxHeartbeats 2000000 in
theorem hfs_noid (id sub key : ByteArray) (pp : Option Addr) (pn pc : Nat) (v : Option Nat) (m : Nat) (F : List UInt8 → Option (Option (List ByteArray))) (M : Nat) (FF : List UInt8 → Option (Option (List ByteArray))) (L : List ByteArray) (w : World)
    (hpub : PubSays id sub key pp pn pc v m F M FF) (hH : HdrAt w v m F) (_hM : M ≤ 8192) (hM0 : 0 < M) (hC : Cover FF L) (hS : (L.map (gF FF)).sum ≤ 4194304) (_hid : id.size ≤ 1048576) (hie : id.toList.isEmpty = true) :
    Calls Try.prog 19 #[.agg #[.string id, .string sub, .slice pp pn pc, .map v, .string key]] w fun e w' => e = .returned (.int .i64 (23 + 4 + (L.map (gF FF)).sum)) ∧ Below w.heap.size w w' := by
  have hb0 : Below w.heap.size w (w.alloc (.cells #[.string id, .string sub, .slice pp pn pc, .map v, .string key] 42)) := (Below.refl _ _).alloc (Nat.le_refl _) _
  have hH1 := hH.below hb0
  go_enter Try.func19, Try.ntmps19
  go_wp2_with (first
    | (go_at_call 20; refine (hpub _ hH1).mono ?_; rintro e w2 ⟨vp, rfl, hP, hb2⟩; obtain ⟨B, hB⟩ := hP.some_of hM0; subst hB; have hlm := fun ty => hP.len Try.underlying40 ty; have hbl2 := below_from hb0 hb2; obtain ⟨fv, hMv, hcont⟩ := hP; have HC := hide hcont; clear hcont hb0 hb2 hH1 hH)
    | (at_range; obtain ⟨D, hown, hsize, hview⟩ := hMv; have Hsz := hide hsize; have HV := hide hview; clear hsize hview; refine wpList_range_own _ rfl _ 40 rfl 9 24 law9 Try.underlying40 _ _ M _ rfl hown ?_; intro w3 hrg3 hg3 hs3)
    | go_in)
  go_frame
  have hb3 : Below w2.heap.size w2 w3 := (Below.refl _ _).grown hg3 (Nat.le_refl _) (fun j hj => by cases hj)
  clear hg3 hs3 hlm
  have Hnn := hide (gF_nonneg FF)
  go_loopw [3] (fun t wr => ∃ (left : Lit → Bool) (cnt : Nat), wr.ranges Try.prog 9 svE B w2.heap.size M D left cnt ∧ t = .int .i64 (23 + 4 + sumIf (fun s => !left (.string s.data.toList)) (gF FF) L) ∧ Below w2.heap.size w2 wr)
    (fun _ wr => wr.rangeLeft B w2.heap.size)
  case atStart =>
    refine ⟨_, _, hrg3, ?_, hb3⟩
    rw [sumIf_none _ _ _ (fun t ht => by
      have h := hC.all t ht
      rw [← hdr_isSome HC.out, ← HV.out, view_isSome] at h
      simp [h])]
    go_num
  case round =>
    obtain ⟨left, cnt, hrg, rfl, hnx⟩ := hrel
    go_wp2_with (first
      | (at_next; refine wpList_next_hdr _ rfl _ rfl B w2.heap.size M _ _ _ rfl hrg ?_ ?_)
      | go_in)
    · intro hc0 hl0
      go_wp2
      go_ret
      exact ⟨ret_int (by rw [sumIf_all _ _ _ (fun t _ => by simp [hl0])] <;> omega), below_from hbl2 hnx⟩
    · intro s p l c w4 cnt4 hs hlx hat hrg4 hlt4 hg4 hs4 hen
      obtain ⟨hin, hSl0⟩ := entry_is HV.out HC.out hat
      have hmemL := hC.dom s hin
      have hnx4 : Below w2.heap.size w2 w4 := hnx.grown hg4 hnx.size (fun j hj => by cases hj; exact Nat.le_refl _)
      have hSl := hSl0.below hnx4
      have hgs : gF FF s ≤ 4194304 := Int.le_trans (mem_sum_le _ Hnn.out L s hmemL) hS
      have HG := hide (show gF FF s = fs s ((lookF FF s).getD []) from rfl)
      have hbd := fs_bounds s ((lookF FF s).getD [])
      rw [← HG.out] at hbd
      have HST := hide (sumIf_step (fun t => !left (.string t.data.toList)) (fun t => !(left (.string t.data.toList) && !(Lit.string t.data.toList).sameKey (.string s.data.toList))) (gF FF) s L hC.nodup hmemL (by simp [hlx]) (left_same left s) (fun t _ hne => left_split left s t hne))
      have hs0 := sumIf_nonneg (fun t => !left (.string t.data.toList)) (gF FF) Hnn.out L
      have hs1 := sumIf_le (fun t => !left (.string t.data.toList)) (gF FF) Hnn.out L
      have hlen := hSl.len
      obtain ⟨c1, c2, c3, c4⟩ := hbd
      rw [hlen] at c3
      generalize sumIf (fun t => !left (.string t.data.toList)) (gF FF) L = S0 at *
      have HRL := hide (show w4.rangeLeft B w2.heap.size < wr.rangeLeft B w2.heap.size by rw [hrg4.left_eq, hrg.left_eq]; exact hlt4)
      have Hrg4 := hide hrg4
      clear hs4 hlx hat hin hSl0 hrg hg4 hnx hlt4 hrg4
      by_cases hl1 : l = 1
      · subst hl1
        have HF1 := hide (fs_one s _ hlen)
        have hf1 := HF1.out
        rw [← HG.out] at hf1
        obtain ⟨b, off, rfl, hb, hc⟩ := hSl.at (by omega)
        have hcell := hc 0 (by omega)
        simp only [Nat.add_zero] at hcell
        generalize ((lookF FF s).getD []).getD 0 ByteArray.empty = t at *
        have Hf1 := hide hf1
        have c5 : (t.size : Int) ≤ 4194304 := by omega
        clear hf1 hc HF1
        go_wp2
        go_roundw
        case rel => exact ⟨_, cnt4, Hrg4.out, by rw [HST.out, Hf1.out]; go_num, hnx4⟩
        case measure => exact HRL.out
      · have hlb : ((l : Int) == 1) = false := beq_eq_false_iff_ne.2 (by omega)
        have HF1 := hide (fs_other s ((lookF FF s).getD []) (by omega))
        go_wp2
        go_loop [3, 52] (fun t i => ∃ j : Nat, j ≤ l ∧ i = .int .i64 j ∧ t = .int .i64 (23 + 4 + S0 + (6 + (s.size : Int)) + 5 * (j : Int) + bs (((lookF FF s).getD []).take j))) (fun _ i => l - (intOf i).toNat)
        case atStart => exact ⟨0, Nat.zero_le _, rfl, by simp [bs]; omega⟩
        case round =>
          obtain ⟨j, hj, rfl, rfl⟩ := hrel
          by_cases hjl : j < l
          · obtain ⟨b, off, rfl, hb, hc⟩ := hSl.at (by omega)
            have hcell := hc j hjl
            have HS := hide (bs_snoc ((lookF FF s).getD []) j (by omega))
            have h0 := bs_nonneg (((lookF FF s).getD []).take j)
            have hle : bs (((lookF FF s).getD []).take (j + 1)) ≤ bs ((lookF FF s).getD []) := by
              have e : bs ((lookF FF s).getD []) = bs (((lookF FF s).getD []).take (j + 1)) + bs (((lookF FF s).getD []).drop (j + 1)) := by
                unfold bs
                rw [← List.sum_append, ← List.map_append, List.take_append_drop]
              have := bs_nonneg (((lookF FF s).getD []).drop (j + 1))
              omega
            rw [HS.out] at hle
            generalize ((lookF FF s).getD []).getD j ByteArray.empty = t at *
            clear hc
            go_wp2
            go_round
            case rel => exact ⟨j + 1, by omega, by go_num, by rw [HS.out]; go_num⟩
            case measure => simp [intOf]; omega
          · have e : ((lookF FF s).getD []).take j = (lookF FF s).getD [] := List.take_of_length_le (by omega)
            have e2 : j = l := by omega
            subst e2
            rw [e]
            go_wp2
            go_roundw
            case rel => exact ⟨_, cnt4, Hrg4.out, by rw [HST.out, HG.out, HF1.out, hlen]; go_num, hnx4⟩
            case measure => exact HRL.out

set_option maxRecDepth 100000 in
set_option maxHeartbeats 2000000 in
theorem hfs_id (id sub key : ByteArray) (pp : Option Addr) (pn pc : Nat) (v : Option Nat) (m : Nat) (F : List UInt8 → Option (Option (List ByteArray))) (M : Nat) (FF : List UInt8 → Option (Option (List ByteArray))) (L : List ByteArray) (w : World)
    (hpub : PubSays id sub key pp pn pc v m F M FF) (hH : HdrAt w v m F) (_hM : M ≤ 8192) (hM0 : 0 < M) (hC : Cover FF L) (hS : (L.map (gF FF)).sum ≤ 4194304) (_hid : id.size ≤ 1048576) (hie : id.toList.isEmpty = false) :
    Calls Try.prog 19 #[.agg #[.string id, .string sub, .slice pp pn pc, .map v, .string key]] w fun e w' => e = .returned (.int .i64 ((23 + (1 + (id.size : Int))) + 4 + (L.map (gF FF)).sum)) ∧ Below w.heap.size w w' := by
  have hb0 : Below w.heap.size w (w.alloc (.cells #[.string id, .string sub, .slice pp pn pc, .map v, .string key] 42)) := (Below.refl _ _).alloc (Nat.le_refl _) _
  have hH1 := hH.below hb0
  go_enter Try.func19, Try.ntmps19
  go_wp2_with (first
    | (go_at_call 20; refine (hpub _ hH1).mono ?_; rintro e w2 ⟨vp, rfl, hP, hb2⟩; obtain ⟨B, hB⟩ := hP.some_of hM0; subst hB; have hlm := fun ty => hP.len Try.underlying40 ty; have hbl2 := below_from hb0 hb2; obtain ⟨fv, hMv, hcont⟩ := hP; have HC := hide hcont; clear hcont hb0 hb2 hH1 hH)
    | (at_range; obtain ⟨D, hown, hsize, hview⟩ := hMv; have Hsz := hide hsize; have HV := hide hview; clear hsize hview; refine wpList_range_own _ rfl _ 40 rfl 9 24 law9 Try.underlying40 _ _ M _ rfl hown ?_; intro w3 hrg3 hg3 hs3)
    | go_in)
  go_frame
  have hb3 : Below w2.heap.size w2 w3 := (Below.refl _ _).grown hg3 (Nat.le_refl _) (fun j hj => by cases hj)
  clear hg3 hs3 hlm
  have Hnn := hide (gF_nonneg FF)
  go_loopw [3] (fun t wr => ∃ (left : Lit → Bool) (cnt : Nat), wr.ranges Try.prog 9 svE B w2.heap.size M D left cnt ∧ t = .int .i64 ((23 + (1 + (id.size : Int))) + 4 + sumIf (fun s => !left (.string s.data.toList)) (gF FF) L) ∧ Below w2.heap.size w2 wr)
    (fun _ wr => wr.rangeLeft B w2.heap.size)
  case atStart =>
    refine ⟨_, _, hrg3, ?_, hb3⟩
    rw [sumIf_none _ _ _ (fun t ht => by
      have h := hC.all t ht
      rw [← hdr_isSome HC.out, ← HV.out, view_isSome] at h
      simp [h])]
    go_num
  case round =>
    obtain ⟨left, cnt, hrg, rfl, hnx⟩ := hrel
    go_wp2_with (first
      | (at_next; refine wpList_next_hdr _ rfl _ rfl B w2.heap.size M _ _ _ rfl hrg ?_ ?_)
      | go_in)
    · intro hc0 hl0
      go_wp2
      go_ret
      exact ⟨ret_int (by rw [sumIf_all _ _ _ (fun t _ => by simp [hl0])] <;> omega), below_from hbl2 hnx⟩
    · intro s p l c w4 cnt4 hs hlx hat hrg4 hlt4 hg4 hs4 hen
      obtain ⟨hin, hSl0⟩ := entry_is HV.out HC.out hat
      have hmemL := hC.dom s hin
      have hnx4 : Below w2.heap.size w2 w4 := hnx.grown hg4 hnx.size (fun j hj => by cases hj; exact Nat.le_refl _)
      have hSl := hSl0.below hnx4
      have hgs : gF FF s ≤ 4194304 := Int.le_trans (mem_sum_le _ Hnn.out L s hmemL) hS
      have HG := hide (show gF FF s = fs s ((lookF FF s).getD []) from rfl)
      have hbd := fs_bounds s ((lookF FF s).getD [])
      rw [← HG.out] at hbd
      have HST := hide (sumIf_step (fun t => !left (.string t.data.toList)) (fun t => !(left (.string t.data.toList) && !(Lit.string t.data.toList).sameKey (.string s.data.toList))) (gF FF) s L hC.nodup hmemL (by simp [hlx]) (left_same left s) (fun t _ hne => left_split left s t hne))
      have hs0 := sumIf_nonneg (fun t => !left (.string t.data.toList)) (gF FF) Hnn.out L
      have hs1 := sumIf_le (fun t => !left (.string t.data.toList)) (gF FF) Hnn.out L
      have hlen := hSl.len
      obtain ⟨c1, c2, c3, c4⟩ := hbd
      rw [hlen] at c3
      generalize sumIf (fun t => !left (.string t.data.toList)) (gF FF) L = S0 at *
      have HRL := hide (show w4.rangeLeft B w2.heap.size < wr.rangeLeft B w2.heap.size by rw [hrg4.left_eq, hrg.left_eq]; exact hlt4)
      have Hrg4 := hide hrg4
      clear hs4 hlx hat hin hSl0 hrg hg4 hnx hlt4 hrg4
      by_cases hl1 : l = 1
      · subst hl1
        have HF1 := hide (fs_one s _ hlen)
        have hf1 := HF1.out
        rw [← HG.out] at hf1
        obtain ⟨b, off, rfl, hb, hc⟩ := hSl.at (by omega)
        have hcell := hc 0 (by omega)
        simp only [Nat.add_zero] at hcell
        generalize ((lookF FF s).getD []).getD 0 ByteArray.empty = t at *
        have Hf1 := hide hf1
        have c5 : (t.size : Int) ≤ 4194304 := by omega
        clear hf1 hc HF1
        go_wp2
        go_roundw
        case rel => exact ⟨_, cnt4, Hrg4.out, by rw [HST.out, Hf1.out]; go_num, hnx4⟩
        case measure => exact HRL.out
      · have hlb : ((l : Int) == 1) = false := beq_eq_false_iff_ne.2 (by omega)
        have HF1 := hide (fs_other s ((lookF FF s).getD []) (by omega))
        go_wp2
        go_loop [3, 52] (fun t i => ∃ j : Nat, j ≤ l ∧ i = .int .i64 j ∧ t = .int .i64 ((23 + (1 + (id.size : Int))) + 4 + S0 + (6 + (s.size : Int)) + 5 * (j : Int) + bs (((lookF FF s).getD []).take j))) (fun _ i => l - (intOf i).toNat)
        case atStart => exact ⟨0, Nat.zero_le _, rfl, by simp [bs]; omega⟩
        case round =>
          obtain ⟨j, hj, rfl, rfl⟩ := hrel
          by_cases hjl : j < l
          · obtain ⟨b, off, rfl, hb, hc⟩ := hSl.at (by omega)
            have hcell := hc j hjl
            have HS := hide (bs_snoc ((lookF FF s).getD []) j (by omega))
            have h0 := bs_nonneg (((lookF FF s).getD []).take j)
            have hle : bs (((lookF FF s).getD []).take (j + 1)) ≤ bs ((lookF FF s).getD []) := by
              have e : bs ((lookF FF s).getD []) = bs (((lookF FF s).getD []).take (j + 1)) + bs (((lookF FF s).getD []).drop (j + 1)) := by
                unfold bs
                rw [← List.sum_append, ← List.map_append, List.take_append_drop]
              have := bs_nonneg (((lookF FF s).getD []).drop (j + 1))
              omega
            rw [HS.out] at hle
            generalize ((lookF FF s).getD []).getD j ByteArray.empty = t at *
            clear hc
            go_wp2
            go_round
            case rel => exact ⟨j + 1, by omega, by go_num, by rw [HS.out]; go_num⟩
            case measure => simp [intOf]; omega
          · have e : ((lookF FF s).getD []).take j = (lookF FF s).getD [] := List.take_of_length_le (by omega)
            have e2 : j = l := by omega
            subst e2
            rw [e]
            go_wp2
            go_roundw
            case rel => exact ⟨_, cnt4, Hrg4.out, by rw [HST.out, HG.out, HF1.out, hlen]; go_num, hnx4⟩
            case measure => exact HRL.out

set_option maxRecDepth 100000 in
theorem hfs_none (id sub key : ByteArray) (pp : Option Addr) (pn pc : Nat) (v : Option Nat) (m : Nat) (F : List UInt8 → Option (Option (List ByteArray))) (FF : List UInt8 → Option (Option (List ByteArray))) (w : World)
    (hpub : PubSays id sub key pp pn pc v m F 0 FF) (hH : HdrAt w v m F) (_hid : id.size ≤ 1048576) (hie : id.toList.isEmpty = true) :
    Calls Try.prog 19 #[.agg #[.string id, .string sub, .slice pp pn pc, .map v, .string key]] w fun e w' => e = .returned (.int .i64 23) ∧ Below w.heap.size w w' := by
  have hb0 : Below w.heap.size w (w.alloc (.cells #[.string id, .string sub, .slice pp pn pc, .map v, .string key] 42)) := (Below.refl _ _).alloc (Nat.le_refl _) _
  have hH1 := hH.below hb0
  go_enter Try.func19, Try.ntmps19
  go_wp2_with (go_at_call 20; refine (hpub _ hH1).mono ?_; rintro e w2 ⟨vp, rfl, hP, hb2⟩; have hlm := fun ty => hP.len Try.underlying40 ty; have hbl2 := below_from hb0 hb2)
  go_ret
  exact ⟨rfl, hbl2⟩

set_option maxRecDepth 100000 in
theorem hfs_none_id (id sub key : ByteArray) (pp : Option Addr) (pn pc : Nat) (v : Option Nat) (m : Nat) (F : List UInt8 → Option (Option (List ByteArray))) (FF : List UInt8 → Option (Option (List ByteArray))) (w : World)
    (hpub : PubSays id sub key pp pn pc v m F 0 FF) (hH : HdrAt w v m F) (_hid : id.size ≤ 1048576) (hie : id.toList.isEmpty = false) :
    Calls Try.prog 19 #[.agg #[.string id, .string sub, .slice pp pn pc, .map v, .string key]] w fun e w' => e = .returned (.int .i64 (23 + (1 + (id.size : Int)))) ∧ Below w.heap.size w w' := by
  have hb0 : Below w.heap.size w (w.alloc (.cells #[.string id, .string sub, .slice pp pn pc, .map v, .string key] 42)) := (Below.refl _ _).alloc (Nat.le_refl _) _
  have hH1 := hH.below hb0
  go_enter Try.func19, Try.ntmps19
  go_wp2_with (go_at_call 20; refine (hpub _ hH1).mono ?_; rintro e w2 ⟨vp, rfl, hP, hb2⟩; have hlm := fun ty => hP.len Try.underlying40 ty; have hbl2 := below_from hb0 hb2)
  go_ret
  exact ⟨rfl, hbl2⟩

/-- The bytes of the id property. -/
def idp (id : ByteArray) : Int := if id.toList.isEmpty then 0 else 1 + (id.size : Int)

/-- The bytes of the table of M entries that take S bytes. -/
def tab (M : Nat) (S : Int) : Int := if M = 0 then 0 else 4 + S

/-- headerFrameSize, by what publishedHeaders gives. -/
theorem hfs_any (id sub key : ByteArray) (pp : Option Addr) (pn pc : Nat) (v : Option Nat) (m : Nat) (F : List UInt8 → Option (Option (List ByteArray))) (M : Nat) (FF : List UInt8 → Option (Option (List ByteArray))) (L : List ByteArray) (w : World)
    (hpub : PubSays id sub key pp pn pc v m F M FF) (hH : HdrAt w v m F) (hM : M ≤ 8192) (hC : Cover FF L) (hS : (L.map (gF FF)).sum ≤ 4194304) (hid : id.size ≤ 1048576) :
    Calls Try.prog 19 #[.agg #[.string id, .string sub, .slice pp pn pc, .map v, .string key]] w fun e w' => e = .returned (.int .i64 (23 + idp id + tab M (L.map (gF FF)).sum)) ∧ Below w.heap.size w w' := by
  unfold idp tab
  by_cases hM0 : M = 0
  · subst hM0
    cases hie : id.toList.isEmpty
    · exact (hfs_none_id id sub key pp pn pc v m F FF w hpub hH hid hie).mono fun e w' h => ⟨by rw [h.1]; exact ret_int (by simp), h.2⟩
    · exact (hfs_none id sub key pp pn pc v m F FF w hpub hH hid hie).mono fun e w' h => ⟨by rw [h.1]; exact ret_int (by simp), h.2⟩
  · cases hie : id.toList.isEmpty
    · exact (hfs_id id sub key pp pn pc v m F M FF L w hpub hH hM (by omega) hC hS hid hie).mono fun e w' h => ⟨by rw [h.1]; exact ret_int (by simp [hM0]; omega), h.2⟩
    · exact (hfs_noid id sub key pp pn pc v m F M FF L w hpub hH hM (by omega) hC hS hid hie).mono fun e w' h => ⟨by rw [h.1]; exact ret_int (by simp [hM0]; omega), h.2⟩

set_option maxRecDepth 100000 in
/-- ZZheaderFrameSize. -/
theorem zhfs_any (id sub key : ByteArray) (pp : Option Addr) (pn pc : Nat) (v : Option Nat) (m : Nat) (F : List UInt8 → Option (Option (List ByteArray))) (M : Nat) (FF : List UInt8 → Option (Option (List ByteArray))) (L : List ByteArray) (w : World)
    (hpub : PubSays id sub key pp pn pc v m F M FF) (hH : HdrAt w v m F) (hM : M ≤ 8192) (hC : Cover FF L) (hS : (L.map (gF FF)).sum ≤ 4194304) (hid : id.size ≤ 1048576) :
    Calls Try.prog 12 #[.string id, .string sub, .slice pp pn pc, .map v, .string key] w fun e w' => e = .returned (.int .i64 (23 + idp id + tab M (L.map (gF FF)).sum)) ∧ Below w.heap.size w w' := by
  go_enter Try.func12, Try.ntmps12
  go_wp2_with (go_at_call 19; refine (hfs_any id sub key pp pn pc v m F M FF L _ hpub hH hM hC hS hid).mono ?_; rintro e w2 ⟨rfl, hb2⟩)
  go_ret
  exact ⟨rfl, hb2⟩

theorem pubSays_empty (id sub key : ByteArray) (pp : Option Addr) (pn pc : Nat) (v : Option Nat) (m : Nat) (F : List UInt8 → Option (Option (List ByteArray))) (hk : key.toList.isEmpty = true) : PubSays id sub key pp pn pc v m F m F := by
  intro w hH
  refine (pub_empty id sub (.slice pp pn pc) v key w hk).mono ?_
  rintro e w' ⟨rfl, hb⟩
  exact ⟨v, rfl, hH.below hb, hb⟩

theorem pubSays_key (id sub key : ByteArray) (pp : Option Addr) (pn pc : Nat) (v : Option Nat) (m : Nat) (F : List UInt8 → Option (Option (List ByteArray))) (hm : m ≤ 8192) (hks : key.size ≤ maxLen) (hk : key.toList.isEmpty = false) : PubSays id sub key pp pn pc v m F (mNew F m) (fNew F key) := by
  intro w hH
  refine (pub_key id sub pp pn pc v m F key w hH hm hks hk).mono ?_
  rintro e w' ⟨B, rfl, hh, hb⟩
  exact ⟨some B, rfl, hh, hb⟩

end Go.Proofs.Qxb6602802a
