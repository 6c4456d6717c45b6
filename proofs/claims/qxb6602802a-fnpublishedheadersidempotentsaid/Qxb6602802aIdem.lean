/-
  THE WALK OF FnPublishedHeadersIdempotent. Own work.
-/
import Derived.Test.Qxb6602802aIdemBig
import Derived.Test.Qxb6602802aExactK
import Derived.Deep.AppendLies
namespace Go.Proofs.Qxb6602802a
open Go.RowKit Go.Maps

theorem sliceIs_of_owns {w : World} {base g n cap : Nat} {ss : List ByteArray} (h : w.ownsRow base 9 1 (.slice (some ⟨g, 0, none⟩) n cap) n (ss.map Value.string)) (hsz : ∀ s ∈ ss, s.size ≤ maxLen) : SliceIs w (some ⟨g, 0, none⟩) n cap (some ss) := by
  have hl : ss.length = n := by simpa using h.1
  have hn : n ≤ maxLen := by
    rcases h.2 with ⟨h1, _⟩ | ⟨g', cap', cur, hv, _, _, h2, h3, _⟩
    · cases h1
    · cases hv; omega
  refine ⟨hl, hn, hsz, fun i hi => ?_⟩
  refine h.cells rfl i _ ?_
  simp [List.getElem?_eq_getElem (show i < ss.length by omega)]

theorem take_str (ks : List ByteArray) (k : Nat) (h : k < ks.length) : (ks.take (k + 1)).map Value.string = (ks.take k).map Value.string ++ [.string (ks.getD k ByteArray.empty)] := by
  rw [List.take_succ_eq_append_getElem h, List.map_append]
  simp [List.getElem?_eq_getElem h]

theorem getD_left (l r : List ByteArray) (a : Nat) (h : a < l.length) : (l ++ r).getD a ByteArray.empty = l.getD a ByteArray.empty := by
  rw [List.getD, List.getD, List.getElem?_append_left h]

theorem getD_last (l : List ByteArray) (s : ByteArray) : (l ++ [s]).getD l.length ByteArray.empty = s := by
  simp [List.getD]

theorem fNew_fNew (F : List UInt8 → Option (Option (List ByteArray))) (key : ByteArray) : fNew (fNew F key) key = fNew F key := by
  funext s
  unfold fNew upd
  by_cases h : s = KH.data.toList
  · rw [if_pos h, if_pos h]
  · rw [if_neg h, if_neg h]

theorem mNew_fNew (F : List UInt8 → Option (Option (List ByteArray))) (key : ByteArray) (n : Nat) : mNew (fNew F key) n = n := by
  unfold mNew
  rw [fNew_same]
  rfl

set_option maxRecDepth 100000 in
set_option maxHeartbeats 2000000 in
theorem idem_nokey (w : World) (id sub : ByteArray) (pp : Option Addr) (pn pc : Nat) (v : Option Nat) (m : Nat) (F : List UInt8 → Option (Option (List ByteArray))) (key : ByteArray) (kp : Option Addr) (kn kc : Nat) (x : Option (List ByteArray)) (hI : Ins w id sub pp pn pc v m F key kp kn kc x)
    (g1 : id.size ≤ 1048576) (g2 : sub.size ≤ 1048576) (g3 : pn ≤ 1048576) (g4 : key.size ≤ 1048576) (g5 : kn ≤ 4096) (g6 : m ≤ 4096) (hk : key.toList.isEmpty = true) :
    Calls Try.prog 6 #[.string id, .string sub, .slice pp pn pc, .map v, .string key, .slice kp kn kc] w fun e w' => e = .returned (.bool true) ∧ Below w.heap.size w w' := by
  have hlm := fun ty => hI.hdr.len Try.underlying23 ty
  have hlen := hI.keys.len
  have hks : key.size ≤ maxLen := hI.key
  obtain ⟨i0, hi, hz0, hz1, hz2⟩ := info_parts info9
  have HR := hide (fun a (ha : a < kn) => restr_hit F (x.getD []) a (by omega))
  obtain ⟨F', hF'⟩ : ∃ F', F' = restr F (x.getD []) := ⟨_, rfl⟩
  rw [← hF'] at HR 
  have HF' := hide hF'
  clear hF'
  go_enter Try.func6, Try.ntmps6
  go_wp2_with (first
    | (go_at_call 7; refine (within_any _ v m F kp kn kc x _ (by omega) (by omega) hI.hdr hI.hdrn hI.keys).mono ?_; rintro e w1 ⟨r, rfl, ⟨q, rfl⟩, hgood⟩; have HG := hide hgood; clear hgood; cases r))
  · go_ret
    exact ⟨rfl, below_drewN (Below.refl _ _) q⟩
  · have hG := HG.out (by trivial)
    have hp1 : BytesAt (w.drewN q) pp pn pc := hI.pay.kept (fun _ _ h => h)
    have hh1 := hI.hdr.drewN q
    have hs1 := hI.keys.drewN q
    have hb1 : Below w.heap.size w (w.drewN q) := below_drewN (Below.refl _ _) q
    generalize w.drewN q = w1 at *
    clear HG hlm
    go_wp2_with (first
      | (go_at_call 8; refine (copyBytes_any pp pn pc _ hp1 g3).mono ?_; rintro e w2 ⟨pp', pc', rfl, hb2⟩; have hh2 := hh1.below hb2; have hs2 := hs1.below hb2)
      | (go_at_call 9; refine (copyHeaders_any v m F kp kn kc x _ hh2 hs2 g5 _ ?_ hG).mono ?_; omega; rintro e w3 ⟨v', rfl, hvn, hh3, hb3⟩; have hs3 := hs2.below hb3; clear hvn; rw [← HF'.out] at hh3)
      | (go_at_call 10; refine (copyStrings_any kp kn kc x _ hs3 (by omega)).mono ?_; rintro e w4 ⟨kp', kc', rfl, hs4, hb4⟩; have hh4 := hh3.below hb4)
      | (at_make; refine wpList_make_own _ rfl _ _ 24 rfl w4.heap.size 9 i0 (.string ⟨#[]⟩) 1 Try.underlying24 hi hz0 hz1 _ _ _ (kn + 1) rfl rfl (by omega) (by rw [hz2]; omega) (by unfold maxLen; omega) (Nat.le_refl _) ?_; intro w5 hrow5 hg5))
    have hbl : Below w.heap.size w w4 := below_from (below_from (below_from hb1 hb2) hb3) hb4
    have HGA := hide hG.all
    have hbl5 : Below w4.heap.size w4 w5 := (Below.refl _ _).grown hg5 (Nat.le_refl _) (fun j hj => by cases hj)
    have Hrow5 := hide hrow5
    clear hb1 hb2 hb3 hb4 hh1 hh2 hh3 hs1 hs2 hs3 hp1 hG hI hrow5 hg5
    go_loopw [13, 14] (fun u i wr => ∃ k g cap : Nat, k ≤ kn ∧ u = .slice (some ⟨g, 0, none⟩) k cap ∧ i = .int .i64 k ∧ wr.ownsRow w4.heap.size 9 1 (.slice (some ⟨g, 0, none⟩) k cap) k (((x.getD []).take k).map Value.string) ∧ Below w4.heap.size w4 wr) (fun _ i _ => kn - (intOf i).toNat)
    case atStart => exact ⟨0, w4.heap.size, kn + 1, Nat.zero_le _, rfl, rfl, Hrow5.out, hbl5⟩
    case round =>
      obtain ⟨k, g, cap, hk2, rfl, rfl, hrow, hnx⟩ := hrel
      by_cases hlt : k < kn
      · obtain ⟨b, off, rfl, hb, hc⟩ := hs4.at (by omega)
        have hcell := (hnx.cell (p := ⟨b, off + k, none⟩) hb).trans (hc k hlt)
        have HT := hide (take_str (x.getD []) k (by omega))
        generalize (x.getD []).getD k ByteArray.empty = s at *
        clear hc
        go_wp2_with (first
          | (at_builtin; refine wpList_append_lies _ rfl _ _ 24 rfl w4.heap.size 9 i0 (.string ⟨#[]⟩) 1 16 Try.underlying24 hi hz0 hz1 hz2 rfl (by decide) _ _ _ rfl (hrow.alloc _) ⟨wr.heap.size, 0, none⟩ 1 1 [.string s] rfl rfl (cell_one_new _ _ _) (by simp [Value.oneCell']) (by decide) (by unfold maxLen; omega) (by omega) (by have := hnx.size; simp; omega) (wr.heap.size + 1) (by simp) ?_; intro g' cap' w6 hrow6 hg6 hat6 hlt6; go_frame)
          | go_in)
        have hnx6 : Below w4.heap.size w4 w6 := (hnx.alloc hnx.size _).grown hg6 (by have := hnx.size; simp; omega) (fun j hj => (hrow.lt j hj).1)
        clear hg6 hat6 hlt6
        go_wp2
        go_roundw
        case rel => exact ⟨k + 1, g', cap', by omega, rfl, by go_num, by rw [HT.out]; exact hrow6, hnx6⟩
        case measure => simp [intOf]; omega
      · have e2 : k = kn := by omega
        subst e2
        have e : (x.getD []).take k = x.getD [] := List.take_of_length_le (by omega)
        rw [e] at hrow
        have hh6 := hh4.below hnx
        have hbl6 : Below w.heap.size w wr := below_from hbl hnx
        have HSZ := hide hs4.sizes
        clear hs4 hh4 Hrow5 hbl5
        have hS6 := sliceIs_of_owns hrow HSZ.out
        have hl6 := fun ty => hh6.len Try.underlying23 ty
        go_wp2_with fail
        refine (zpub_empty id sub pp' pn pc' v' key _ hk).mono ?_
        rintro e w8 ⟨rfl, hb8⟩
        have hh8 := hh6.below hb8
        have hS8 := hS6.below hb8
        have hbl8 := below_from hbl6 hb8
        clear hb8 hh6 hS6 hl6 hbl6 hrow hnx hbl
        go_wp2_with fail
        refine (zpub_empty id sub pp' pn pc' v' key _ hk).mono ?_
        rintro e w9 ⟨rfl, hb9⟩
        have hO9 := hh8.below hb9
        have hS9 := hS8.below hb9
        have hbl9 := below_from hbl8 hb9
        have HALL := hide (fun a (ha : a < k) => show (F' ((x.getD []).getD a ByteArray.empty).data.toList).isSome = true by rw [HR.out a ha]; exact HGA.out a (by omega))
        have hl9 := fun ty => hO9.len Try.underlying23 ty
        have he9 := fun w => run_eql_map_nil (P := Try.prog) w 23 9 24 v' Try.underlying23
        clear hb9 hh8 hS8 hbl8
        go_wp2_with fail
        go_loopw [17] (fun i wz => ∃ k2 q : Nat, k2 ≤ k ∧ i = .int .i64 k2 ∧ wz = w9.drewN q) (fun i _ => k - (intOf i).toNat)
        case atStart => exact ⟨0, 0, Nat.zero_le _, rfl, rfl⟩
        case round =>
          obtain ⟨j, q, hj, rfl, rfl⟩ := hrel
          by_cases hjl : j < k
          · obtain ⟨b, off, e7, hb, hc⟩ := hS9.at (by omega)
            cases e7
            have hcell := hc j hjl
            have hsz := hS9.size_at j
            have hfound := HALL.out j hjl
            simp only [Option.getD_some, Nat.zero_add] at hcell hsz hfound
            generalize (x.getD []).getD j ByteArray.empty = s at *
            clear hc
            obtain ⟨p1, n1, c1, hlk1, hS1⟩ := (hO9.drewN q).look_ok Try.underlying23 hsz
            rw [hfound] at hlk1
            go_wp2_with (first
              | (go_at_call 14; refine (same_any p1 p1 n1 n1 c1 c1 _ _ hS1 hS1).mono ?_; rintro e w10 ⟨rfl, q2, rfl⟩))
            go_roundw
            case rel => exact ⟨j + 1, q + q2, by omega, by go_num, by simp⟩
            case measure => simp [intOf]; omega
          · go_wp2
            go_ret
            exact ⟨rfl, below_drewN hbl9 q⟩

end Go.Proofs.Qxb6602802a
