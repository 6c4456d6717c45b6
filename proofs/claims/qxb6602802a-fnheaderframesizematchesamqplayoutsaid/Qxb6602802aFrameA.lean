/-
  THE WALK OF FnHeaderFrameSizeMatchesAMQPLayout, no key. Own work.
-/
import Derived.Test.Qxb6602802aFrameBig
import Derived.Test.Qxb6602802aFrameSum
import Derived.Deep.RegionHeld3
namespace Go.Proofs.Qxb6602802a
open Go.RowKit Go.Maps

set_option maxRecDepth 100000 in
set_option maxHeartbeats 2000000 in
theorem frame_nokey_noid (w : World) (id sub : ByteArray) (pp : Option Addr) (pn pc : Nat) (v : Option Nat) (m : Nat) (F : List UInt8 → Option (Option (List ByteArray))) (key : ByteArray) (kp : Option Addr) (kn kc : Nat) (x : Option (List ByteArray)) (hI : Ins w id sub pp pn pc v m F key kp kn kc x)
    (g1 : id.size ≤ 1048576) (g2 : sub.size ≤ 1048576) (g3 : pn ≤ 1048576) (g4 : key.size ≤ 1048576) (g5 : kn ≤ 4096) (g6 : m ≤ 4096) (hk : key.toList.isEmpty = true) (hie : id.toList.isEmpty = true) :
    Calls Try.prog 3 #[.string id, .string sub, .slice pp pn pc, .map v, .string key, .slice kp kn kc] w fun e w' => e = .returned (.bool true) ∧ Below w.heap.size w w' := by
  have hlm := fun ty => hI.hdr.len Try.underlying23 ty
  have hlen := hI.keys.len
  have hks : key.size ≤ maxLen := hI.key
  have Hip := hide (show idp id = 0 by unfold idp; rw [hie]; rfl)
  go_enter Try.func3, Try.ntmps3
  go_wp2_with (first
    | (go_at_call 7; refine (within_any _ v m F kp kn kc x _ (by omega) (by omega) hI.hdr hI.hdrn hI.keys).mono ?_; rintro e w1 ⟨r, rfl, ⟨q, rfl⟩, hgood⟩; have HG := hide hgood; clear hgood; cases r))
  · go_ret
    exact ⟨rfl, below_drewN (Below.refl _ _) q⟩
  · have hG := HG.out (by trivial)
    have hp1 : BytesAt (w.drewN q) pp pn pc := hI.pay.kept (fun _ _ h => h)
    have hh1 := hI.hdr.drewN q
    have hs1 := hI.keys.drewN q
    have hb1 : Below w.heap.size w (w.drewN q) := below_drewN (Below.refl _ _) q
    generalize w.drewN q = w1 at *
    clear HG hlm
    go_wp2_with (first
      | (go_at_call 8; refine (copyBytes_any pp pn pc _ hp1 g3).mono ?_; rintro e w2 ⟨pp', pc', rfl, hb2⟩; have hh2 := hh1.below hb2; have hs2 := hs1.below hb2)
      | (go_at_call 9; refine (copyHeaders_any v m F kp kn kc x _ hh2 hs2 g5 _ ?_ hG).mono ?_; omega; rintro e w3 ⟨v', rfl, hvn, hh3, hb3⟩; have hs3 := hs2.below hb3; clear hvn)
      | (go_at_call 10; refine (copyStrings_any kp kn kc x _ hs3 (by omega)).mono ?_; rintro e w4 ⟨kp', kc', rfl, hs4, hb4⟩; have hh4 := hh3.below hb4))
    have hbl : Below w.heap.size w w4 := below_from (below_from (below_from hb1 hb2) hb3) hb4
    have HC := hide (cover_nokey hG)
    have hT : ((x.getD []).map (gF (restr F (x.getD [])))).sum ≤ 1048576 := by
      have h1 := sum_gF_le F (x.getD [])
      have h2 := hG.bytes
      rw [sum_restr]
      omega
    have HMK := hide (show (restr F (x.getD []) KH.data.toList).isSome = true → 0 < kn from fun h => by
      have h2 := restr_dom F (x.getD []) KH h
      cases hx : x.getD [] with
      | nil => rw [hx] at h2; simp at h2
      | cons a r => rw [hx] at hlen; simp at hlen; omega)
    generalize restr F (x.getD []) = F' at *
    clear hb1 hb2 hb3 hb4 hh1 hh2 hh3 hs1 hs2 hs3 hp1 hG hI
    go_loopw [14, 15, 16] (fun t n i wr => ∃ k q : Nat, k ≤ kn ∧ i = .int .i64 k ∧ t = .int .i64 (flSum F' (fun _ => true) (x.getD []) k) ∧ n = .int .i64 ((fl (fun _ => true) (x.getD []) k).length : Nat) ∧ wr = w4.drewN q) (fun _ _ i _ => kn - (intOf i).toNat)
    case atStart => exact ⟨0, 0, Nat.zero_le _, rfl, by rw [(flSum_zero _ _ _).1], by rw [(flSum_zero F' _ _).2]; rfl, rfl⟩
    case round =>
      obtain ⟨k, q, hk2, rfl, rfl, rfl, rfl⟩ := hrel
      have hfb := flSum_bounds F' (fun _ => true) (x.getD []) k
      have hfl := fl_len (fun _ => true) (x.getD []) k
      obtain ⟨f0, f1⟩ := hfb
      by_cases hlt : k < kn
      · obtain ⟨b, off, rfl, hb, hc⟩ := hs4.at (by omega)
        have hcell := hc k hlt
        have hsz := hs4.size_at k
        have HHIT := hide (flSum_hit F' (fun _ => true) (x.getD []) k (by omega))
        have HMISS := hide (flSum_miss F' (fun _ => true) (x.getD []) k (by omega))
        have hgm : gF F' ((x.getD []).getD k ByteArray.empty) ≤ ((x.getD []).map (gF F')).sum := mem_sum_le _ (gF_nonneg F') _ _ (by rw [List.getD, List.getElem?_eq_getElem (by omega)]; exact List.getElem_mem (by omega))
        have hg0 := gF_nonneg F' ((x.getD []).getD k ByteArray.empty)
        generalize (x.getD []).getD k ByteArray.empty = s at *
        clear hc
        have i1 : (k : Int) < (kn : Int) := by omega
        have i0 : (0 : Int) ≤ (k : Int) := by omega
        generalize flSum F' (fun _ => true) (x.getD []) k = t0 at *
        generalize (fl (fun _ => true) (x.getD []) k).length = n0 at *
        have hh5 : HdrAt (w4.drewN (q + 1)) v' kn F' := hh4.drewN (q + 1)
        obtain ⟨p2, n2, c2, hlk2, hS2⟩ := hh5.look Try.underlying23 hsz
        have HGF := hide (show gF F' s = fs s ((lookF F' s).getD []) from rfl)
        go_wp2
        go_region_held3 (fun w' => w'.cell? ⟨b, off + k, none⟩ = some (.string s)) (first | go_keep)
          (first | (go_at_call 11; refine (fieldSize_any s p2 n2 c2 (lookF F' s) _ hS2 ?_).mono ?_; (rw [← HGF.out]; omega); rintro e w9 ⟨rfl, rfl⟩; rw [← HGF.out]))
        go_wp2
        obtain ⟨u1, u2⟩ := HHIT.out (by trivial)
        go_roundw
        case rel => exact ⟨k + 1, q + 1, by omega, by go_num, by rw [u1, wrap_ok _ (by omega) (by omega)], by rw [u2]; go_num, rfl⟩
        case measure => simp [intOf]; omega
      · have e2 : k = kn := by omega
        subst e2
        have e1 : (fl (fun _ => true) (x.getD []) k).length = k := by rw [fl_true, List.length_take]; omega
        have e3 : flSum F' (fun _ => true) (x.getD []) k = ((x.getD []).map (gF F')).sum := by unfold flSum; rw [fl_true, List.take_of_length_le (by omega)]
        have s0 := sum_nonneg _ (gF_nonneg F') (x.getD [])
        rw [e1, e3]
        have hZ : ∀ w9, HdrAt w9 v' k F' → _ := fun w9 hh9 => zhfs_any id sub key pp' pn pc' v' k F' k F' (x.getD []) w9 (pubSays_empty id sub key pp' pn pc' v' k F' hk) hh9 (by omega) HC.out (by omega) g1
        have HZ := hide hZ
        clear hZ e1 e3 f0 f1 hfl
        generalize ((x.getD []).map (gF F')).sum = S at *
        by_cases hk0 : k = 0
        · subst hk0
          have HVAL := hide (show 23 + idp id + tab 0 S = 23 by rw [Hip.out]; unfold tab; simp)
          go_wp2_with (go_at_call 12; refine (HZ.out _ (hh4.drewN q)).mono ?_; rintro e w9 ⟨rfl, hb9⟩; rw [HVAL.out])
          go_ret
          exact ⟨rfl, below_from (below_drewN hbl q) hb9⟩
        · have HVAL := hide (show 23 + idp id + tab k S = 23 + (4 + S) by rw [Hip.out]; unfold tab; rw [if_neg hk0] <;> omega)
          go_wp2_with (go_at_call 12; refine (HZ.out _ (hh4.drewN q)).mono ?_; rintro e w9 ⟨rfl, hb9⟩; rw [HVAL.out])
          go_ret
          exact ⟨rfl, below_from (below_drewN hbl q) hb9⟩

set_option maxRecDepth 100000 in
set_option maxHeartbeats 2000000 in
theorem frame_nokey_id (w : World) (id sub : ByteArray) (pp : Option Addr) (pn pc : Nat) (v : Option Nat) (m : Nat) (F : List UInt8 → Option (Option (List ByteArray))) (key : ByteArray) (kp : Option Addr) (kn kc : Nat) (x : Option (List ByteArray)) (hI : Ins w id sub pp pn pc v m F key kp kn kc x)
    (g1 : id.size ≤ 1048576) (g2 : sub.size ≤ 1048576) (g3 : pn ≤ 1048576) (g4 : key.size ≤ 1048576) (g5 : kn ≤ 4096) (g6 : m ≤ 4096) (hk : key.toList.isEmpty = true) (hie : id.toList.isEmpty = false) :
    Calls Try.prog 3 #[.string id, .string sub, .slice pp pn pc, .map v, .string key, .slice kp kn kc] w fun e w' => e = .returned (.bool true) ∧ Below w.heap.size w w' := by
  have hlm := fun ty => hI.hdr.len Try.underlying23 ty
  have hlen := hI.keys.len
  have hks : key.size ≤ maxLen := hI.key
  have Hip := hide (show idp id = 1 + (id.size : Int) by unfold idp; rw [hie]; rfl)
  go_enter Try.func3, Try.ntmps3
  go_wp2_with (first
    | (go_at_call 7; refine (within_any _ v m F kp kn kc x _ (by omega) (by omega) hI.hdr hI.hdrn hI.keys).mono ?_; rintro e w1 ⟨r, rfl, ⟨q, rfl⟩, hgood⟩; have HG := hide hgood; clear hgood; cases r))
  · go_ret
    exact ⟨rfl, below_drewN (Below.refl _ _) q⟩
  · have hG := HG.out (by trivial)
    have hp1 : BytesAt (w.drewN q) pp pn pc := hI.pay.kept (fun _ _ h => h)
    have hh1 := hI.hdr.drewN q
    have hs1 := hI.keys.drewN q
    have hb1 : Below w.heap.size w (w.drewN q) := below_drewN (Below.refl _ _) q
    generalize w.drewN q = w1 at *
    clear HG hlm
    go_wp2_with (first
      | (go_at_call 8; refine (copyBytes_any pp pn pc _ hp1 g3).mono ?_; rintro e w2 ⟨pp', pc', rfl, hb2⟩; have hh2 := hh1.below hb2; have hs2 := hs1.below hb2)
      | (go_at_call 9; refine (copyHeaders_any v m F kp kn kc x _ hh2 hs2 g5 _ ?_ hG).mono ?_; omega; rintro e w3 ⟨v', rfl, hvn, hh3, hb3⟩; have hs3 := hs2.below hb3; clear hvn)
      | (go_at_call 10; refine (copyStrings_any kp kn kc x _ hs3 (by omega)).mono ?_; rintro e w4 ⟨kp', kc', rfl, hs4, hb4⟩; have hh4 := hh3.below hb4))
    have hbl : Below w.heap.size w w4 := below_from (below_from (below_from hb1 hb2) hb3) hb4
    have HC := hide (cover_nokey hG)
    have hT : ((x.getD []).map (gF (restr F (x.getD [])))).sum ≤ 1048576 := by
      have h1 := sum_gF_le F (x.getD [])
      have h2 := hG.bytes
      rw [sum_restr]
      omega
    have HMK := hide (show (restr F (x.getD []) KH.data.toList).isSome = true → 0 < kn from fun h => by
      have h2 := restr_dom F (x.getD []) KH h
      cases hx : x.getD [] with
      | nil => rw [hx] at h2; simp at h2
      | cons a r => rw [hx] at hlen; simp at hlen; omega)
    generalize restr F (x.getD []) = F' at *
    clear hb1 hb2 hb3 hb4 hh1 hh2 hh3 hs1 hs2 hs3 hp1 hG hI
    go_loopw [14, 15, 16] (fun t n i wr => ∃ k q : Nat, k ≤ kn ∧ i = .int .i64 k ∧ t = .int .i64 (flSum F' (fun _ => true) (x.getD []) k) ∧ n = .int .i64 ((fl (fun _ => true) (x.getD []) k).length : Nat) ∧ wr = w4.drewN q) (fun _ _ i _ => kn - (intOf i).toNat)
    case atStart => exact ⟨0, 0, Nat.zero_le _, rfl, by rw [(flSum_zero _ _ _).1], by rw [(flSum_zero F' _ _).2]; rfl, rfl⟩
    case round =>
      obtain ⟨k, q, hk2, rfl, rfl, rfl, rfl⟩ := hrel
      have hfb := flSum_bounds F' (fun _ => true) (x.getD []) k
      have hfl := fl_len (fun _ => true) (x.getD []) k
      obtain ⟨f0, f1⟩ := hfb
      by_cases hlt : k < kn
      · obtain ⟨b, off, rfl, hb, hc⟩ := hs4.at (by omega)
        have hcell := hc k hlt
        have hsz := hs4.size_at k
        have HHIT := hide (flSum_hit F' (fun _ => true) (x.getD []) k (by omega))
        have HMISS := hide (flSum_miss F' (fun _ => true) (x.getD []) k (by omega))
        have hgm : gF F' ((x.getD []).getD k ByteArray.empty) ≤ ((x.getD []).map (gF F')).sum := mem_sum_le _ (gF_nonneg F') _ _ (by rw [List.getD, List.getElem?_eq_getElem (by omega)]; exact List.getElem_mem (by omega))
        have hg0 := gF_nonneg F' ((x.getD []).getD k ByteArray.empty)
        generalize (x.getD []).getD k ByteArray.empty = s at *
        clear hc
        have i1 : (k : Int) < (kn : Int) := by omega
        have i0 : (0 : Int) ≤ (k : Int) := by omega
        generalize flSum F' (fun _ => true) (x.getD []) k = t0 at *
        generalize (fl (fun _ => true) (x.getD []) k).length = n0 at *
        have hh5 : HdrAt (w4.drewN (q + 1)) v' kn F' := hh4.drewN (q + 1)
        obtain ⟨p2, n2, c2, hlk2, hS2⟩ := hh5.look Try.underlying23 hsz
        have HGF := hide (show gF F' s = fs s ((lookF F' s).getD []) from rfl)
        go_wp2
        go_region_held3 (fun w' => w'.cell? ⟨b, off + k, none⟩ = some (.string s)) (first | go_keep)
          (first | (go_at_call 11; refine (fieldSize_any s p2 n2 c2 (lookF F' s) _ hS2 ?_).mono ?_; (rw [← HGF.out]; omega); rintro e w9 ⟨rfl, rfl⟩; rw [← HGF.out]))
        go_wp2
        obtain ⟨u1, u2⟩ := HHIT.out (by trivial)
        go_roundw
        case rel => exact ⟨k + 1, q + 1, by omega, by go_num, by rw [u1, wrap_ok _ (by omega) (by omega)], by rw [u2]; go_num, rfl⟩
        case measure => simp [intOf]; omega
      · have e2 : k = kn := by omega
        subst e2
        have e1 : (fl (fun _ => true) (x.getD []) k).length = k := by rw [fl_true, List.length_take]; omega
        have e3 : flSum F' (fun _ => true) (x.getD []) k = ((x.getD []).map (gF F')).sum := by unfold flSum; rw [fl_true, List.take_of_length_le (by omega)]
        have s0 := sum_nonneg _ (gF_nonneg F') (x.getD [])
        rw [e1, e3]
        have hZ : ∀ w9, HdrAt w9 v' k F' → _ := fun w9 hh9 => zhfs_any id sub key pp' pn pc' v' k F' k F' (x.getD []) w9 (pubSays_empty id sub key pp' pn pc' v' k F' hk) hh9 (by omega) HC.out (by omega) g1
        have HZ := hide hZ
        clear hZ e1 e3 f0 f1 hfl
        generalize ((x.getD []).map (gF F')).sum = S at *
        by_cases hk0 : k = 0
        · subst hk0
          have HVAL := hide (show 23 + idp id + tab 0 S = 23 + (1 + (id.size : Int)) by rw [Hip.out]; unfold tab; simp)
          go_wp2_with (go_at_call 12; refine (HZ.out _ (hh4.drewN q)).mono ?_; rintro e w9 ⟨rfl, hb9⟩; rw [HVAL.out])
          go_ret
          exact ⟨rfl, below_from (below_drewN hbl q) hb9⟩
        · have HVAL := hide (show 23 + idp id + tab k S = 23 + (1 + (id.size : Int)) + (4 + S) by rw [Hip.out]; unfold tab; rw [if_neg hk0] <;> omega)
          go_wp2_with (go_at_call 12; refine (HZ.out _ (hh4.drewN q)).mono ?_; rintro e w9 ⟨rfl, hb9⟩; rw [HVAL.out])
          go_ret
          exact ⟨rfl, below_from (below_drewN hbl q) hb9⟩

end Go.Proofs.Qxb6602802a
