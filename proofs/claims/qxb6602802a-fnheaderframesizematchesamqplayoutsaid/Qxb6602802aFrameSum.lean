/-
  PLAIN LAWS for FnHeaderFrameSizeMatchesAMQPLayout: the table's sum, with and without the key's own header. Own work.
-/
import Derived.Test.Qxb6602802aHfs
namespace Go.Proofs.Qxb6602802a
open Go.RowKit Go.Maps

theorem wrap_ok (x : Int) (h0 : 0 ≤ x) (h1 : x ≤ 4194304) : IntKind.i64.wrap x = x := by rw [IntKind.wrap_i64]; omega

/-- Not the key's own header. -/
def nKH (s : ByteArray) : Bool := !(s.toList == [84, 120, 49, 45, 75, 101, 121])

theorem KH_toList : (KH.toList == [84, 120, 49, 45, 75, 101, 121]) = true := by
  rw [ByteArray.toList_eq]; decide

theorem nKH_iff (s : ByteArray) : nKH s = true ↔ s ≠ KH := by
  unfold nKH
  constructor
  · intro h e
    subst e
    rw [KH_toList] at h
    cases h
  · intro h
    cases e : (s.toList == [84, 120, 49, 45, 75, 101, 121])
    · rfl
    · exfalso
      apply h
      have e1 : s.toList = [84, 120, 49, 45, 75, 101, 121] := by simpa using e
      rw [ByteArray.toList_eq] at e1
      exact data_inj e1

theorem sum_sublist (g : ByteArray → Int) (hg : ∀ t, 0 ≤ g t) {l₁ l₂ : List ByteArray} (h : l₁.Sublist l₂) : (l₁.map g).sum ≤ (l₂.map g).sum := by
  induction h with
  | slnil => simp
  | cons a _ ih => have := hg a; simp only [List.map_cons, List.sum_cons]; omega
  | cons_cons a _ ih => simp only [List.map_cons, List.sum_cons]; omega

theorem sum_nonneg (g : ByteArray → Int) (hg : ∀ t, 0 ≤ g t) (l : List ByteArray) : 0 ≤ (l.map g).sum := by
  have := sum_sublist g hg (List.nil_sublist l)
  simpa using this

theorem sum_gF_le (F : List UInt8 → Option (Option (List ByteArray))) (ks : List ByteArray) : (ks.map (gF F)).sum ≤ kb ks + vb F ks := by
  induction ks with
  | nil => simp [kb, vb]
  | cons s r ih =>
    have := fs_le F s
    simp only [kb, vb, List.map_cons, List.sum_cons, gF] at *
    omega

theorem mem_getD {ks : List ByteArray} {s : ByteArray} (h : s ∈ ks) : ∃ a, a < ks.length ∧ ks.getD a ByteArray.empty = s := by
  obtain ⟨a, ha, e⟩ := List.mem_iff_getElem.1 h
  exact ⟨a, ha, by rw [List.getD, List.getElem?_eq_getElem ha]; exact e⟩

theorem gF_restr (F : List UInt8 → Option (Option (List ByteArray))) (ks : List ByteArray) (s : ByteArray) (h : s ∈ ks) : gF (restr F ks) s = gF F s := by
  obtain ⟨a, ha, rfl⟩ := mem_getD h
  unfold gF lookF
  rw [restr_hit F ks a ha]

theorem sum_restr (F : List UInt8 → Option (Option (List ByteArray))) (ks : List ByteArray) : (ks.map (gF (restr F ks))).sum = (ks.map (gF F)).sum := by
  rw [List.map_congr_left (fun s hs => gF_restr F ks s hs)]

theorem restr_dom (F : List UInt8 → Option (Option (List ByteArray))) (ks : List ByteArray) (s : ByteArray) (h : (restr F ks s.data.toList).isSome = true) : s ∈ ks := by
  unfold restr at h
  split at h
  · rename_i hm
    obtain ⟨t, ht, e⟩ := List.mem_map.1 hm
    rw [← data_inj e]
    exact ht
  · cases h

theorem cover_nokey {F : List UInt8 → Option (Option (List ByteArray))} {m : Nat} {ks : List ByteArray} {base : Int} (h : Good F m ks base) : Cover (restr F ks) ks where
  nodup := nodup_of_apart ks h.apart
  all := fun t ht => by
    obtain ⟨a, ha, rfl⟩ := mem_getD ht
    rw [restr_hit F ks a ha]
    exact h.all a ha
  dom := restr_dom F ks

theorem cover_key {F : List UInt8 → Option (Option (List ByteArray))} {m : Nat} {ks : List ByteArray} {base : Int} (key : ByteArray) (h : Good F m ks base) : Cover (fNew (restr F ks) key) (ks.filter nKH ++ [KH]) where
  nodup := by
    rw [List.nodup_append]
    refine ⟨(cover_nokey h).nodup.filter _, by simp, ?_⟩
    intro a ha b hb e
    simp at hb
    subst hb
    have := (List.mem_filter.1 ha).2
    exact (nKH_iff a).1 this e
  all := fun t ht => by
    rcases List.mem_append.1 ht with h1 | h1
    · exact fNew_isSome _ _ ((cover_nokey h).all t (List.mem_filter.1 h1).1)
    · simp at h1
      subst h1
      rw [fNew_same]
      rfl
  dom := fun s hs => by
    by_cases e : s = KH
    · simp [e]
    · rw [fNew_other _ _ (fun h => e (data_inj h))] at hs
      exact List.mem_append.2 (Or.inl (List.mem_filter.2 ⟨restr_dom F ks s hs, (nKH_iff s).2 e⟩))

theorem gF_KH (F : List UInt8 → Option (Option (List ByteArray))) (key : ByteArray) : gF (fNew F key) KH = 13 + (key.size : Int) := by
  unfold gF lookF
  rw [fNew_same]
  simp [fs, bs]
  have : KH.size = 7 := by decide
  omega

theorem gF_other (F : List UInt8 → Option (Option (List ByteArray))) (key : ByteArray) (s : ByteArray) (h : nKH s = true) : gF (fNew F key) s = gF F s := by
  unfold gF lookF
  rw [fNew_other _ _ (fun e => (nKH_iff s).1 h (data_inj e))]

theorem sum_key (F : List UInt8 → Option (Option (List ByteArray))) (ks : List ByteArray) (key : ByteArray) : ((ks.filter nKH ++ [KH]).map (gF (fNew F key))).sum = ((ks.filter nKH).map (gF F)).sum + (13 + (key.size : Int)) := by
  rw [List.map_append, List.sum_append, List.map_congr_left (fun s hs => gF_other F key s (List.mem_filter.1 hs).2)]
  simp [gF_KH]

/-- What has been counted behind k keys. -/
def fl (nk : ByteArray → Bool) (ks : List ByteArray) (k : Nat) : List ByteArray := (ks.take k).filter nk

theorem fl_step (nk : ByteArray → Bool) (ks : List ByteArray) (k : Nat) (h : k < ks.length) : fl nk ks (k + 1) = fl nk ks k ++ (if nk (ks.getD k ByteArray.empty) then [ks.getD k ByteArray.empty] else []) := by
  unfold fl
  rw [List.take_succ_eq_append_getElem h, List.filter_append, List.getD, List.getElem?_eq_getElem h]
  simp only [Option.getD_some, List.filter_cons, List.filter_nil]

theorem fl_sub (nk : ByteArray → Bool) (ks : List ByteArray) (k : Nat) : (fl nk ks k).Sublist ks := List.Sublist.trans List.filter_sublist (List.take_sublist k ks)

theorem fl_len (nk : ByteArray → Bool) (ks : List ByteArray) (k : Nat) : (fl nk ks k).length ≤ k := by
  unfold fl
  have h1 := List.length_filter_le nk (ks.take k)
  have h2 := List.length_take_le k ks
  omega

/-- The table's sum behind k keys. -/
def flSum (F : List UInt8 → Option (Option (List ByteArray))) (nk : ByteArray → Bool) (ks : List ByteArray) (k : Nat) : Int := ((fl nk ks k).map (gF F)).sum

theorem flSum_bounds (F : List UInt8 → Option (Option (List ByteArray))) (nk : ByteArray → Bool) (ks : List ByteArray) (k : Nat) : 0 ≤ flSum F nk ks k ∧ flSum F nk ks k ≤ (ks.map (gF F)).sum :=
  ⟨sum_nonneg _ (gF_nonneg F) _, sum_sublist _ (gF_nonneg F) (fl_sub nk ks k)⟩

theorem flSum_hit (F : List UInt8 → Option (Option (List ByteArray))) (nk : ByteArray → Bool) (ks : List ByteArray) (k : Nat) (h : k < ks.length) (hn : nk (ks.getD k ByteArray.empty) = true) :
    flSum F nk ks (k + 1) = flSum F nk ks k + gF F (ks.getD k ByteArray.empty) ∧ (fl nk ks (k + 1)).length = (fl nk ks k).length + 1 := by
  unfold flSum
  rw [fl_step nk ks k h, hn]
  simp

theorem flSum_miss (F : List UInt8 → Option (Option (List ByteArray))) (nk : ByteArray → Bool) (ks : List ByteArray) (k : Nat) (h : k < ks.length) (hn : nk (ks.getD k ByteArray.empty) = false) :
    flSum F nk ks (k + 1) = flSum F nk ks k ∧ (fl nk ks (k + 1)).length = (fl nk ks k).length := by
  unfold flSum
  rw [fl_step nk ks k h, hn]
  simp

theorem flSum_zero (F : List UInt8 → Option (Option (List ByteArray))) (nk : ByteArray → Bool) (ks : List ByteArray) : flSum F nk ks 0 = 0 ∧ (fl nk ks 0).length = 0 := by
  simp [flSum, fl]

theorem fl_end (nk : ByteArray → Bool) (ks : List ByteArray) : fl nk ks ks.length = ks.filter nk := by
  simp [fl]

theorem fl_true (ks : List ByteArray) (k : Nat) : fl (fun _ => true) ks k = ks.take k := by
  simp [fl]

end Go.Proofs.Qxb6602802a
