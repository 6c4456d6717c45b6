/-
  THE WALK OF FnPublishedHeadersIdempotent, the message with a key that no header carries. Own work.
-/
import Derived.Test.Qxb6602802aIdem
namespace Go.Proofs.Qxb6602802a
open Go.RowKit Go.Maps

set_option maxRecDepth 100000 in
set_option maxHeartbeats 2000000 in
theorem idem_adds (w : World) (id sub : ByteArray) (pp : Option Addr) (pn pc : Nat) (v : Option Nat) (m : Nat) (F : List UInt8 → Option (Option (List ByteArray))) (key : ByteArray) (kp : Option Addr) (kn kc : Nat) (x : Option (List ByteArray)) (hI : Ins w id sub pp pn pc v m F key kp kn kc x)
    (g1 : id.size ≤ 1048576) (g2 : sub.size ≤ 1048576) (g3 : pn ≤ 1048576) (g4 : key.size ≤ 1048576) (g5 : kn ≤ 4096) (g6 : m ≤ 4096) (hk : key.toList.isEmpty = false) (hbb : (restr F (x.getD []) KH.data.toList).isSome = false) :
    Calls Try.prog 6 #[.string id, .string sub, .slice pp pn pc, .map v, .string key, .slice kp kn kc] w fun e w' => e = .returned (.bool true) ∧ Below w.heap.size w w' := by
  have hlm := fun ty => hI.hdr.len Try.underlying23 ty
  have hlen := hI.keys.len
  have hks : key.size ≤ maxLen := hI.key
  obtain ⟨i0, hi, hz0, hz1, hz2⟩ := info_parts info9
  have HR := hide (fun a (ha : a < kn) => restr_hit F (x.getD []) a (by omega))
  have HM := hide (show mNew (restr F (x.getD [])) kn = kn + 1 by unfold mNew; rw [hbb]; rfl)
  obtain ⟨F', hF'⟩ : ∃ F', F' = restr F (x.getD []) := ⟨_, rfl⟩
  rw [← hF'] at HR HM hbb
  have HF' := hide hF'
  clear hF'
  have HB := hide hbb
  clear hbb
  go_enter Try.func6, Try.ntmps6
  go_wp2_with (first
    | (go_at_call 7; refine (within_any _ v m F kp kn kc x _ (by omega) (by omega) hI.hdr hI.hdrn hI.keys).mono ?_; rintro e w1 ⟨r, rfl, ⟨q, rfl⟩, hgood⟩; have HG := hide hgood; clear hgood; cases r))
  · go_ret
    exact ⟨rfl, below_drewN (Below.refl _ _) q⟩
  · have hG := HG.out (by trivial)
    have hp1 : BytesAt (w.drewN q) pp pn pc := hI.pay.kept (fun _ _ h => h)
    have hh1 := hI.hdr.drewN q
    have hs1 := hI.keys.drewN q
    have hb1 : Below w.heap.size w (w.drewN q) := below_drewN (Below.refl _ _) q
    generalize w.drewN q = w1 at *
    clear HG hlm
    go_wp2_with (first
      | (go_at_call 8; refine (copyBytes_any pp pn pc _ hp1 g3).mono ?_; rintro e w2 ⟨pp', pc', rfl, hb2⟩; have hh2 := hh1.below hb2; have hs2 := hs1.below hb2)
      | (go_at_call 9; refine (copyHeaders_any v m F kp kn kc x _ hh2 hs2 g5 _ ?_ hG).mono ?_; omega; rintro e w3 ⟨v', rfl, hvn, hh3, hb3⟩; have hs3 := hs2.below hb3; clear hvn; rw [← HF'.out] at hh3)
      | (go_at_call 10; refine (copyStrings_any kp kn kc x _ hs3 (by omega)).mono ?_; rintro e w4 ⟨kp', kc', rfl, hs4, hb4⟩; have hh4 := hh3.below hb4)
      | (at_make; refine wpList_make_own _ rfl _ _ 24 rfl w4.heap.size 9 i0 (.string ⟨#[]⟩) 1 Try.underlying24 hi hz0 hz1 _ _ _ (kn + 1) rfl rfl (by omega) (by rw [hz2]; omega) (by unfold maxLen; omega) (Nat.le_refl _) ?_; intro w5 hrow5 hg5))
    have hbl : Below w.heap.size w w4 := below_from (below_from (below_from hb1 hb2) hb3) hb4
    have HGA := hide hG.all
    have hbl5 : Below w4.heap.size w4 w5 := (Below.refl _ _).grown hg5 (Nat.le_refl _) (fun j hj => by cases hj)
    have Hrow5 := hide hrow5
    clear hb1 hb2 hb3 hb4 hh1 hh2 hh3 hs1 hs2 hs3 hp1 hG hI hrow5 hg5
    go_loopw [13, 14] (fun u i wr => ∃ k g cap : Nat, k ≤ kn ∧ u = .slice (some ⟨g, 0, none⟩) k cap ∧ i = .int .i64 k ∧ wr.ownsRow w4.heap.size 9 1 (.slice (some ⟨g, 0, none⟩) k cap) k (((x.getD []).take k).map Value.string) ∧ Below w4.heap.size w4 wr) (fun _ i _ => kn - (intOf i).toNat)
    case atStart => exact ⟨0, w4.heap.size, kn + 1, Nat.zero_le _, rfl, rfl, Hrow5.out, hbl5⟩
    case round =>
      obtain ⟨k, g, cap, hk2, rfl, rfl, hrow, hnx⟩ := hrel
      by_cases hlt : k < kn
      · obtain ⟨b, off, rfl, hb, hc⟩ := hs4.at (by omega)
        have hcell := (hnx.cell (p := ⟨b, off + k, none⟩) hb).trans (hc k hlt)
        have HT := hide (take_str (x.getD []) k (by omega))
        generalize (x.getD []).getD k ByteArray.empty = s at *
        clear hc
        go_wp2_with (first
          | (at_builtin; refine wpList_append_lies _ rfl _ _ 24 rfl w4.heap.size 9 i0 (.string ⟨#[]⟩) 1 16 Try.underlying24 hi hz0 hz1 hz2 rfl (by decide) _ _ _ rfl (hrow.alloc _) ⟨wr.heap.size, 0, none⟩ 1 1 [.string s] rfl rfl (cell_one_new _ _ _) (by simp [Value.oneCell']) (by decide) (by unfold maxLen; omega) (by omega) (by have := hnx.size; simp; omega) (wr.heap.size + 1) (by simp) ?_; intro g' cap' w6 hrow6 hg6 hat6 hlt6; go_frame)
          | go_in)
        have hnx6 : Below w4.heap.size w4 w6 := (hnx.alloc hnx.size _).grown hg6 (by have := hnx.size; simp; omega) (fun j hj => (hrow.lt j hj).1)
        clear hg6 hat6 hlt6
        go_wp2
        go_roundw
        case rel => exact ⟨k + 1, g', cap', by omega, rfl, by go_num, by rw [HT.out]; exact hrow6, hnx6⟩
        case measure => simp [intOf]; omega
      · have e2 : k = kn := by omega
        subst e2
        have e : (x.getD []).take k = x.getD [] := List.take_of_length_le (by omega)
        rw [e] at hrow
        have hh6 := hh4.below hnx
        have hbl6 : Below w.heap.size w wr := below_from hbl hnx
        have HSZ := hide hs4.sizes
        clear hs4 Hrow5 hbl5
        clear hbl6
        go_wp2_with (first
          | (go_at_call 15; refine (hh6.has KH (by decide)).mono ?_; rintro e w7 ⟨rfl, rfl⟩; rw [HB.out])
          | (at_builtin; refine wpList_append_lies _ rfl _ _ 24 rfl w4.heap.size 9 i0 (.string ⟨#[]⟩) 1 16 Try.underlying24 hi hz0 hz1 hz2 rfl (by decide) _ _ _ rfl (hrow.alloc _) ⟨w7.heap.size, 0, none⟩ 1 1 [.string KH] rfl rfl (cell_one_new _ _ _) (by simp [Value.oneCell']) (by decide) (by unfold maxLen; omega) (by omega) (by have := hnx.size; simp; omega) (w7.heap.size + 1) (by simp) ?_; intro g' cap' w8 hrow8 hg8 hat8 hlt8; go_frame))
        have hnx8 : Below w4.heap.size w4 w8 := (hnx.alloc hnx.size _).grown hg8 (by have := hnx.size; simp; omega) (fun j hj => (hrow.lt j hj).1)
        have hS8 : SliceIs w8 (some ⟨g', 0, none⟩) (k + 1) cap' (some (x.getD [] ++ [KH])) := sliceIs_of_owns (by simpa using hrow8) (fun s hs => by
          rcases List.mem_append.1 hs with h | h
          · exact HSZ.out s h
          · simp at h; rw [h]; decide)
        have hh8 := hh4.below hnx8
        have hbl8 : Below w.heap.size w w8 := below_from hbl hnx8
        clear hrow8 hg8 hat8 hlt8 hrow hnx hnx8 hh6 hh4 hbl
        refine (zpub_key id sub pp' pn pc' v' k F' key _ hh8 (by omega) hks hk).mono ?_
        rintro e w10 ⟨B1, rfl, hO10, hb10⟩
        rw [HM.out] at hO10
        have hS10 := hS8.below hb10
        have hbl10 := below_from hbl8 hb10
        clear hb10 hh8 hS8 hbl8
        go_wp2_with fail
        refine (zpub_key id sub pp' pn pc' (some B1) (k + 1) (fNew F' key) key _ hO10 (by omega) hks hk).mono ?_
        rintro e w9 ⟨B2, rfl, hT9, hb9⟩
        rw [mNew_fNew, fNew_fNew] at hT9
        have hO9 := hO10.below hb9
        have hS9 := hS10.below hb9
        have hbl9 := below_from hbl10 hb9
        have HALL := hide (fun a (ha : a < k + 1) => show (fNew F' key ((x.getD [] ++ [KH]).getD a ByteArray.empty).data.toList).isSome = true by
          by_cases h : a < k
          · rw [getD_left _ _ _ (by omega)]; apply fNew_isSome; rw [HR.out a h]; exact HGA.out a (by omega)
          · rw [show a = (x.getD []).length by omega, getD_last, fNew_same]; rfl)
        have hl9 := fun ty => hO9.len Try.underlying23 ty
        have hm9 := fun ty => hT9.len Try.underlying23 ty
        have he9 := fun w => run_eql_map_nil (P := Try.prog) w 23 9 24 (some B1) Try.underlying23
        have hf9 := fun w => run_eql_map_nil (P := Try.prog) w 23 9 24 (some B2) Try.underlying23
        clear hb9 hO10 hS10 hbl10
        go_wp2_with fail
        go_loopw [17] (fun i wz => ∃ k2 q : Nat, k2 ≤ (k + 1) ∧ i = .int .i64 k2 ∧ wz = w9.drewN q) (fun i _ => (k + 1) - (intOf i).toNat)
        case atStart => exact ⟨0, 0, Nat.zero_le _, rfl, rfl⟩
        case round =>
          obtain ⟨j, q, hj, rfl, rfl⟩ := hrel
          by_cases hjl : j < (k + 1)
          · obtain ⟨b, off, e7, hb, hc⟩ := hS9.at (by omega)
            cases e7
            have hcell := hc j hjl
            have hsz := hS9.size_at j
            have hfound := HALL.out j hjl
            simp only [Option.getD_some, Nat.zero_add] at hcell hsz hfound
            generalize (x.getD [] ++ [KH]).getD j ByteArray.empty = s at *
            clear hc
            obtain ⟨p1, n1, c1, hlk1, hS1⟩ := (hO9.drewN q).look_ok Try.underlying23 hsz
            obtain ⟨p2, n2, c2, hlk2, hS2⟩ := (hT9.drewN q).look_ok Try.underlying23 hsz
            rw [hfound] at hlk1 hlk2
            go_wp2_with (first
              | (go_at_call 14; refine (same_any p1 p2 n1 n2 c1 c2 _ _ hS1 hS2).mono ?_; rintro e w10 ⟨rfl, q2, rfl⟩))
            go_roundw
            case rel => exact ⟨j + 1, q + q2, by omega, by go_num, by simp⟩
            case measure => simp [intOf]; omega
          · go_wp2
            go_ret
            exact ⟨rfl, below_drewN hbl9 q⟩

end Go.Proofs.Qxb6602802a
