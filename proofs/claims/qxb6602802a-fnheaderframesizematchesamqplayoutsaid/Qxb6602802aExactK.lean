/-
  THE WALK OF FnPublishedHeadersExact, the message with a key. Own work.
-/
import Derived.Test.Qxb6602802aExact
namespace Go.Proofs.Qxb6602802a
open Go.RowKit Go.Maps

theorem fNew_same (F : List UInt8 → Option (Option (List ByteArray))) (key : ByteArray) : fNew F key KH.data.toList = some (some [key]) := by unfold fNew upd; rw [if_pos rfl]

theorem fNew_other (F : List UInt8 → Option (Option (List ByteArray))) (key : ByteArray) {s : List UInt8} (h : s ≠ KH.data.toList) : fNew F key s = F s := by unfold fNew upd; rw [if_neg h]

theorem fNew_isSome (F : List UInt8 → Option (Option (List ByteArray))) (key : ByteArray) {s : List UInt8} (h : (F s).isSome = true) : (fNew F key s).isSome = true := by
  by_cases e : s = KH.data.toList
  · subst e; rw [fNew_same]; rfl
  · rw [fNew_other F key e]; exact h

theorem not_KH {s : ByteArray} (h : (s.toList == [84, 120, 49, 45, 75, 101, 121]) = false) : s.data.toList ≠ KH.data.toList := by
  intro e
  have : s = KH := data_inj e
  subst this
  rw [ByteArray.toList_eq] at h
  exact absurd h (by decide)

/-- What publishedHeaders lays at its own key. -/
theorem HdrAt.look_KH {w : World} {v : Option Nat} {m : Nat} {F : List UInt8 → Option (Option (List ByteArray))} {key : ByteArray} (h : HdrAt w v m (fNew F key)) {t : TypeId} (ht : Try.prog.underlying t = some (.map 9 24)) :
    ∃ b off c, (Instr.lookup t (.map v) (.string ⟨#[84, 120, 49, 45, 75, 101, 121]⟩) true).run Try.prog w = .ok (.tuple #[.slice (some ⟨b, off, none⟩) 1 c, .bool true]) w ∧ w.cell? ⟨b, off, none⟩ = some (.string key) := by
  obtain ⟨p, n, c, hrun, hS⟩ := h.look_ok ht (s := KH) (by decide)
  have e : lookF (fNew F key) KH = some [key] := by unfold lookF; rw [fNew_same]; rfl
  rw [e] at hS
  rw [fNew_same] at hrun
  have hn := hS.len
  simp at hn
  subst hn
  obtain ⟨b, off, rfl, hb, hc⟩ := hS.at (by omega)
  exact ⟨b, off, c, hrun, by simpa using hc 0 (by omega)⟩

set_option maxRecDepth 100000 in
set_option maxHeartbeats 1000000 in
theorem exact_key_false (w : World) (id sub : ByteArray) (pp : Option Addr) (pn pc : Nat) (v : Option Nat) (m : Nat) (F : List UInt8 → Option (Option (List ByteArray))) (key : ByteArray) (kp : Option Addr) (kn kc : Nat) (x : Option (List ByteArray)) (hI : Ins w id sub pp pn pc v m F key kp kn kc x)
    (g1 : id.size ≤ 1048576) (g2 : sub.size ≤ 1048576) (g3 : pn ≤ 1048576) (g4 : key.size ≤ 1048576) (g5 : kn ≤ 4096) (g6 : m ≤ 4096) (hk : key.toList.isEmpty = false) (hbb : (restr F (x.getD []) KH.data.toList).isSome = false) :
    Calls Try.prog 5 #[.string id, .string sub, .slice pp pn pc, .map v, .string key, .slice kp kn kc] w fun e w' => e = .returned (.bool true) ∧ Below w.heap.size w w' := by
  have hlm := fun ty => hI.hdr.len Try.underlying23 ty
  have hlen := hI.keys.len
  have hks : key.size ≤ maxLen := hI.key
  have HR := hide (fun a (ha : a < kn) => restr_hit F (x.getD []) a (by omega))
  have HM := hide (show mNew (restr F (x.getD [])) kn = kn + 1 by unfold mNew; rw [hbb]; rfl)
  obtain ⟨F', hF'⟩ : ∃ F', F' = restr F (x.getD []) := ⟨_, rfl⟩
  rw [← hF'] at HR HM hbb
  have HF' := hide hF'
  have HB := hide hbb
  clear hF' hbb
  go_enter Try.func5, Try.ntmps5
  go_wp2_with (first
    | (go_at_call 7; refine (within_any _ v m F kp kn kc x _ (by omega) (by omega) hI.hdr hI.hdrn hI.keys).mono ?_; rintro e w1 ⟨r, rfl, ⟨q, rfl⟩, hgood⟩; have HG := hide hgood; clear hgood; cases r))
  · go_ret
    exact ⟨rfl, below_drewN (Below.refl _ _) q⟩
  · have hG := HG.out (by trivial)
    have hp1 : BytesAt (w.drewN q) pp pn pc := hI.pay.kept (fun _ _ h => h)
    have hh1 := hI.hdr.drewN q
    have hs1 := hI.keys.drewN q
    have hb1 : Below w.heap.size w (w.drewN q) := below_drewN (Below.refl _ _) q
    generalize w.drewN q = w1 at *
    clear HG hlm
    go_wp2_with (first
      | (go_at_call 8; refine (copyBytes_any pp pn pc _ hp1 g3).mono ?_; rintro e w2 ⟨pp', pc', rfl, hb2⟩; have hh2 := hh1.below hb2; have hs2 := hs1.below hb2)
      | (go_at_call 9; refine (copyHeaders_any v m F kp kn kc x _ hh2 hs2 g5 _ ?_ hG).mono ?_; omega; rintro e w3 ⟨v', rfl, hvn, hh3, hb3⟩; have hs3 := hs2.below hb3; clear hvn; rw [← HF'.out] at hh3)
      | (go_at_call 10; refine (copyStrings_any kp kn kc x _ hs3 (by omega)).mono ?_; rintro e w4 ⟨kp', kc', rfl, hs4, hb4⟩; have hh4 := hh3.below hb4)
      | (go_at_call 13; refine (zpub_key id sub pp' pn pc' v' kn F' key _ hh4 (by omega) hks hk).mono ?_; rintro e w5 ⟨B, rfl, hg5, hb5⟩; rw [HM.out] at hg5; have hh5 := hh4.below hb5; have hs5 := hs4.below hb5; have hl5 := fun ty => hg5.len Try.underlying23 ty; have he5 := fun w => run_eql_map_nil (P := Try.prog) w 23 9 24 (some B) Try.underlying23; obtain ⟨bk, ok, ck, hkv, hkc⟩ := hg5.look_KH Try.underlying23)
      | (go_at_call 15; refine (hh5.has KH (by decide)).mono ?_; rintro e w6 ⟨rfl, rfl⟩; rw [HB.out]))
    have hbl : Below w.heap.size w w6 := below_from (below_from (below_from (below_from hb1 hb2) hb3) hb4) hb5
    have HGA := hide hG.all
    clear hb1 hb2 hb3 hb4 hb5 hh1 hh2 hh3 hh4 hs1 hs2 hs3 hs4 hp1 hl5 he5 hG hI hkv hkc
    go_loopw [20] (fun i wr => ∃ k q : Nat, k ≤ kn ∧ i = .int .i64 k ∧ wr = w6.drewN q) (fun i _ => kn - (intOf i).toNat)
    case atStart => exact ⟨0, 0, Nat.zero_le _, rfl, rfl⟩
    case round =>
      obtain ⟨k, q, hk2, rfl, rfl⟩ := hrel
      by_cases hlt : k < kn
      · obtain ⟨b, off, rfl, hb, hc⟩ := hs5.at (by omega)
        have hcell := hc k hlt
        have hsz := hs5.size_at k
        have hfound : (F' ((x.getD []).getD k ByteArray.empty).data.toList).isSome = true := by rw [HR.out k hlt]; exact HGA.out k (by omega)
        generalize (x.getD []).getD k ByteArray.empty = s at *
        clear hc
        cases hKH : (s.toList == [84, 120, 49, 45, 75, 101, 121])
        · obtain ⟨p1, n1, c1, hlk1, hS1⟩ := (hg5.drewN q).look_ok Try.underlying23 hsz
          obtain ⟨p2, n2, c2, hlk2, hS2⟩ := (hh5.drewN q).look Try.underlying23 hsz
          rw [fNew_isSome F' key hfound] at hlk1
          have hS1' : SliceIs (w6.drewN q) p1 n1 c1 (lookF F' s) := by
            have e : lookF (fNew F' key) s = lookF F' s := by unfold lookF; rw [fNew_other F' key (not_KH hKH)]
            rw [e] at hS1
            exact hS1
          clear hS1
          go_wp2_with (first
            | (go_at_call 14; refine (same_any p1 p2 n1 n2 c1 c2 _ _ hS1' hS2).mono ?_; rintro e w7 ⟨rfl, q2, rfl⟩))
          go_roundw
          case rel => exact ⟨k + 1, q + q2, by omega, by go_num, by simp⟩
          case measure => simp [intOf]; omega
        · go_wp2
          go_roundw
          case rel => exact ⟨k + 1, q, by omega, by go_num, rfl⟩
          case measure => simp [intOf]; omega
      · go_wp2
        go_ret
        exact ⟨rfl, below_drewN hbl q⟩

set_option maxRecDepth 100000 in
set_option maxHeartbeats 1000000 in
theorem exact_key_true (w : World) (id sub : ByteArray) (pp : Option Addr) (pn pc : Nat) (v : Option Nat) (m : Nat) (F : List UInt8 → Option (Option (List ByteArray))) (key : ByteArray) (kp : Option Addr) (kn kc : Nat) (x : Option (List ByteArray)) (hI : Ins w id sub pp pn pc v m F key kp kn kc x)
    (g1 : id.size ≤ 1048576) (g2 : sub.size ≤ 1048576) (g3 : pn ≤ 1048576) (g4 : key.size ≤ 1048576) (g5 : kn ≤ 4096) (g6 : m ≤ 4096) (hk : key.toList.isEmpty = false) (hbb : (restr F (x.getD []) KH.data.toList).isSome = true) :
    Calls Try.prog 5 #[.string id, .string sub, .slice pp pn pc, .map v, .string key, .slice kp kn kc] w fun e w' => e = .returned (.bool true) ∧ Below w.heap.size w w' := by
  have hlm := fun ty => hI.hdr.len Try.underlying23 ty
  have hlen := hI.keys.len
  have hks : key.size ≤ maxLen := hI.key
  have HR := hide (fun a (ha : a < kn) => restr_hit F (x.getD []) a (by omega))
  have HM := hide (show mNew (restr F (x.getD [])) kn = kn by unfold mNew; rw [hbb]; rfl)
  obtain ⟨F', hF'⟩ : ∃ F', F' = restr F (x.getD []) := ⟨_, rfl⟩
  rw [← hF'] at HR HM hbb
  have HF' := hide hF'
  have HB := hide hbb
  clear hF' hbb
  go_enter Try.func5, Try.ntmps5
  go_wp2_with (first
    | (go_at_call 7; refine (within_any _ v m F kp kn kc x _ (by omega) (by omega) hI.hdr hI.hdrn hI.keys).mono ?_; rintro e w1 ⟨r, rfl, ⟨q, rfl⟩, hgood⟩; have HG := hide hgood; clear hgood; cases r))
  · go_ret
    exact ⟨rfl, below_drewN (Below.refl _ _) q⟩
  · have hG := HG.out (by trivial)
    have hp1 : BytesAt (w.drewN q) pp pn pc := hI.pay.kept (fun _ _ h => h)
    have hh1 := hI.hdr.drewN q
    have hs1 := hI.keys.drewN q
    have hb1 : Below w.heap.size w (w.drewN q) := below_drewN (Below.refl _ _) q
    generalize w.drewN q = w1 at *
    clear HG hlm
    go_wp2_with (first
      | (go_at_call 8; refine (copyBytes_any pp pn pc _ hp1 g3).mono ?_; rintro e w2 ⟨pp', pc', rfl, hb2⟩; have hh2 := hh1.below hb2; have hs2 := hs1.below hb2)
      | (go_at_call 9; refine (copyHeaders_any v m F kp kn kc x _ hh2 hs2 g5 _ ?_ hG).mono ?_; omega; rintro e w3 ⟨v', rfl, hvn, hh3, hb3⟩; have hs3 := hs2.below hb3; clear hvn; rw [← HF'.out] at hh3)
      | (go_at_call 10; refine (copyStrings_any kp kn kc x _ hs3 (by omega)).mono ?_; rintro e w4 ⟨kp', kc', rfl, hs4, hb4⟩; have hh4 := hh3.below hb4)
      | (go_at_call 13; refine (zpub_key id sub pp' pn pc' v' kn F' key _ hh4 (by omega) hks hk).mono ?_; rintro e w5 ⟨B, rfl, hg5, hb5⟩; rw [HM.out] at hg5; have hh5 := hh4.below hb5; have hs5 := hs4.below hb5; have hl5 := fun ty => hg5.len Try.underlying23 ty; have he5 := fun w => run_eql_map_nil (P := Try.prog) w 23 9 24 (some B) Try.underlying23; obtain ⟨bk, ok, ck, hkv, hkc⟩ := hg5.look_KH Try.underlying23)
      | (go_at_call 15; refine (hh5.has KH (by decide)).mono ?_; rintro e w6 ⟨rfl, rfl⟩; rw [HB.out]))
    have hbl : Below w.heap.size w w6 := below_from (below_from (below_from (below_from hb1 hb2) hb3) hb4) hb5
    have HGA := hide hG.all
    clear hb1 hb2 hb3 hb4 hb5 hh1 hh2 hh3 hh4 hs1 hs2 hs3 hs4 hp1 hl5 he5 hG hI hkv hkc
    go_loopw [20] (fun i wr => ∃ k q : Nat, k ≤ kn ∧ i = .int .i64 k ∧ wr = w6.drewN q) (fun i _ => kn - (intOf i).toNat)
    case atStart => exact ⟨0, 0, Nat.zero_le _, rfl, rfl⟩
    case round =>
      obtain ⟨k, q, hk2, rfl, rfl⟩ := hrel
      by_cases hlt : k < kn
      · obtain ⟨b, off, rfl, hb, hc⟩ := hs5.at (by omega)
        have hcell := hc k hlt
        have hsz := hs5.size_at k
        have hfound : (F' ((x.getD []).getD k ByteArray.empty).data.toList).isSome = true := by rw [HR.out k hlt]; exact HGA.out k (by omega)
        generalize (x.getD []).getD k ByteArray.empty = s at *
        clear hc
        cases hKH : (s.toList == [84, 120, 49, 45, 75, 101, 121])
        · obtain ⟨p1, n1, c1, hlk1, hS1⟩ := (hg5.drewN q).look_ok Try.underlying23 hsz
          obtain ⟨p2, n2, c2, hlk2, hS2⟩ := (hh5.drewN q).look Try.underlying23 hsz
          rw [fNew_isSome F' key hfound] at hlk1
          have hS1' : SliceIs (w6.drewN q) p1 n1 c1 (lookF F' s) := by
            have e : lookF (fNew F' key) s = lookF F' s := by unfold lookF; rw [fNew_other F' key (not_KH hKH)]
            rw [e] at hS1
            exact hS1
          clear hS1
          go_wp2_with (first
            | (go_at_call 14; refine (same_any p1 p2 n1 n2 c1 c2 _ _ hS1' hS2).mono ?_; rintro e w7 ⟨rfl, q2, rfl⟩))
          go_roundw
          case rel => exact ⟨k + 1, q + q2, by omega, by go_num, by simp⟩
          case measure => simp [intOf]; omega
        · go_wp2
          go_roundw
          case rel => exact ⟨k + 1, q, by omega, by go_num, rfl⟩
          case measure => simp [intOf]; omega
      · go_wp2
        go_ret
        exact ⟨rfl, below_drewN hbl q⟩

/-- FnPublishedHeadersExact: whatever the arguments: true; nothing that was there has turned. -/
theorem exact_any (w : World) (id sub : ByteArray) (pp : Option Addr) (pn pc : Nat) (v : Option Nat) (m : Nat) (F : List UInt8 → Option (Option (List ByteArray))) (key : ByteArray) (kp : Option Addr) (kn kc : Nat) (x : Option (List ByteArray)) (hI : Ins w id sub pp pn pc v m F key kp kn kc x) :
    Calls Try.prog 5 #[.string id, .string sub, .slice pp pn pc, .map v, .string key, .slice kp kn kc] w fun e w' => e = .returned (.bool true) ∧ Below w.heap.size w w' := by
  by_cases hbig : id.size ≤ 1048576 ∧ sub.size ≤ 1048576 ∧ pn ≤ 1048576 ∧ key.size ≤ 1048576 ∧ kn ≤ 4096 ∧ m ≤ 4096
  · obtain ⟨g1, g2, g3, g4, g5, g6⟩ := hbig
    cases hk : key.toList.isEmpty
    · cases hbb : (restr F (x.getD []) KH.data.toList).isSome
      · exact exact_key_false w id sub pp pn pc v m F key kp kn kc x hI g1 g2 g3 g4 g5 g6 hk hbb
      · exact exact_key_true w id sub pp pn pc v m F key kp kn kc x hI g1 g2 g3 g4 g5 g6 hk hbb
    · exact exact_nokey w id sub pp pn pc v m F key kp kn kc x hI g1 g2 g3 g4 g5 g6 hk
  · exact exact_big w id sub pp pn pc v m F key kp kn kc x hI hbig

end Go.Proofs.Qxb6602802a
