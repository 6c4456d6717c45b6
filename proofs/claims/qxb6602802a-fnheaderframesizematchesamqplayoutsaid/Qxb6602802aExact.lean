/-
  THE WALK OF FnPublishedHeadersExact. Own work.
-/
import Derived.Test.Qxb6602802aExactBig
namespace Go.Proofs.Qxb6602802a
open Go.RowKit Go.Maps

set_option maxRecDepth 100000 in
set_option maxHeartbeats 1000000 in
theorem exact_nokey (w : World) (id sub : ByteArray) (pp : Option Addr) (pn pc : Nat) (v : Option Nat) (m : Nat) (F : List UInt8 → Option (Option (List ByteArray))) (key : ByteArray) (kp : Option Addr) (kn kc : Nat) (x : Option (List ByteArray)) (hI : Ins w id sub pp pn pc v m F key kp kn kc x)
    (g1 : id.size ≤ 1048576) (g2 : sub.size ≤ 1048576) (g3 : pn ≤ 1048576) (g4 : key.size ≤ 1048576) (g5 : kn ≤ 4096) (g6 : m ≤ 4096) (hk : key.toList.isEmpty = true) :
    Calls Try.prog 5 #[.string id, .string sub, .slice pp pn pc, .map v, .string key, .slice kp kn kc] w fun e w' => e = .returned (.bool true) ∧ Below w.heap.size w w' := by
  have hlm := fun ty => hI.hdr.len Try.underlying23 ty
  have hlen := hI.keys.len
  go_enter Try.func5, Try.ntmps5
  go_wp2_with (first
    | (go_at_call 7; refine (within_any _ v m F kp kn kc x _ (by omega) (by omega) hI.hdr hI.hdrn hI.keys).mono ?_; rintro e w1 ⟨r, rfl, ⟨q, rfl⟩, hgood⟩; have HG := hide hgood; clear hgood; cases r))
  · go_ret
    exact ⟨rfl, below_drewN (Below.refl _ _) q⟩
  · have hG := HG.out (by trivial)
    have hp1 : BytesAt (w.drewN q) pp pn pc := hI.pay.kept (fun _ _ h => h)
    have hh1 := hI.hdr.drewN q
    have hs1 := hI.keys.drewN q
    have hb1 : Below w.heap.size w (w.drewN q) := below_drewN (Below.refl _ _) q
    generalize w.drewN q = w1 at *
    clear HG hlm
    go_wp2_with (first
      | (go_at_call 8; refine (copyBytes_any pp pn pc _ hp1 g3).mono ?_; rintro e w2 ⟨pp', pc', rfl, hb2⟩; have hh2 := hh1.below hb2; have hs2 := hs1.below hb2)
      | (go_at_call 9; refine (copyHeaders_any v m F kp kn kc x _ hh2 hs2 g5 _ ?_ hG).mono ?_; omega; rintro e w3 ⟨v', rfl, hvn, hh3, hb3⟩; have hs3 := hs2.below hb3; have HVN := hide hvn; clear hvn)
      | (go_at_call 10; refine (copyStrings_any kp kn kc x _ hs3 (by omega)).mono ?_; rintro e w4 ⟨kp', kc', rfl, hs4, hb4⟩; have hh4 := hh3.below hb4)
      | (go_at_call 13; refine (zpub_empty id sub pp' pn pc' v' key _ hk).mono ?_; rintro e w5 ⟨rfl, hb5⟩; have hh5 := hh4.below hb5; have hs5 := hs4.below hb5; have hl5 := fun ty => hh5.len Try.underlying23 ty; have he5 := fun w => run_eql_map_nil (P := Try.prog) w 23 9 24 v' Try.underlying23))
    have hbl : Below w.heap.size w w5 := below_from (below_from (below_from (below_from hb1 hb2) hb3) hb4) hb5
    have HR := hide (fun a (ha : a < kn) => restr_hit F (x.getD []) a (by omega))
    generalize restr F (x.getD []) = F' at *
    have HGA := hide hG.all
    clear hb1 hb2 hb3 hb4 hb5 hh1 hh2 hh3 hh4 hs1 hs2 hs3 hs4 hp1 hl5 he5 hG hI
    go_loopw [14] (fun i wr => ∃ k q : Nat, k ≤ kn ∧ i = .int .i64 k ∧ wr = w5.drewN q) (fun i _ => kn - (intOf i).toNat)
    case atStart => exact ⟨0, 0, Nat.zero_le _, rfl, rfl⟩
    case round =>
      obtain ⟨k, q, hk2, rfl, rfl⟩ := hrel
      by_cases hlt : k < kn
      · obtain ⟨b, off, rfl, hb, hc⟩ := hs5.at (by omega)
        have hcell := hc k hlt
        have hsz := hs5.size_at k
        have hfound : (F' ((x.getD []).getD k ByteArray.empty).data.toList).isSome = true := by rw [HR.out k hlt]; exact HGA.out k (by omega)
        generalize (x.getD []).getD k ByteArray.empty = s at *
        clear hc
        obtain ⟨p1, n1, c1, hlk1, hS1⟩ := (hh5.drewN q).look_ok Try.underlying23 hsz
        obtain ⟨p2, n2, c2, hlk2, hS2⟩ := (hh5.drewN q).look Try.underlying23 hsz
        rw [hfound] at hlk1
        go_wp2_with (first
          | (go_at_call 14; refine (same_any p1 p2 n1 n2 c1 c2 _ _ hS1 hS2).mono ?_; rintro e w6 ⟨rfl, q2, rfl⟩))
        go_roundw
        case rel => exact ⟨k + 1, q + q2, by omega, by go_num, by simp⟩
        case measure => simp [intOf]; omega
      · go_wp2
        go_ret
        exact ⟨rfl, below_drewN hbl q⟩

end Go.Proofs.Qxb6602802a
