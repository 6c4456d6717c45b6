/-
  THE WALK OF zzCopyHeaders. Own work.
-/
import Derived.Test.Qxb6602802aCopy
import Derived.Deep.RegionHeld3
namespace Go.Proofs.Qxb6602802a
open Go.RowKit Go.Maps

theorem makeMap_hint {t : TypeId} (ht : Try.prog.underlying t = some (.map 9 24)) (w : World) (z : Int) : (Instr.makeMap t (some (.int .i64 z))).run Try.prog w = .ok (.map (some w.heap.size)) (w.alloc (.map #[] 0)) := by
  simp [Instr.makeMap, run_underlying ht, asInt, asIntOf]

/-- The contents, narrowed to the keys of a list. -/
def restr (F : List UInt8 → Option (Option (List ByteArray))) (ks : List ByteArray) : List UInt8 → Option (Option (List ByteArray)) := fun s => if s ∈ ks.map (fun k => k.data.toList) then F s else none

theorem data_inj {a b : ByteArray} (h : a.data.toList = b.data.toList) : a = b := by
  cases a; cases b
  simp at h
  rw [h]

theorem restr_miss (F : List UInt8 → Option (Option (List ByteArray))) (ks : List ByteArray) (k : Nat) (hk : k < ks.length) (hap : ∀ a b, a < b → b < ks.length → ks.getD a ByteArray.empty ≠ ks.getD b ByteArray.empty) :
    restr F (ks.take k) (ks.getD k ByteArray.empty).data.toList = none := by
  unfold restr
  rw [if_neg]
  intro h
  obtain ⟨s, hs, he⟩ := List.mem_map.1 h
  obtain ⟨j, hj, rfl⟩ := List.mem_iff_getElem.1 hs
  have hj' : j < k := by simp at hj; omega
  apply hap j k hj' hk
  have := data_inj he
  rw [List.getElem_take] at this
  rw [← this, List.getD, List.getElem?_eq_getElem (by omega)]
  rfl

theorem restr_step (F : List UInt8 → Option (Option (List ByteArray))) (ks : List ByteArray) (k : Nat) (hk : k < ks.length) (hF : (F (ks.getD k ByteArray.empty).data.toList).isSome = true) :
    restr F (ks.take (k + 1)) = upd (restr F (ks.take k)) (ks.getD k ByteArray.empty).data.toList (lookF F (ks.getD k ByteArray.empty)) := by
  have e : ks.take (k + 1) = ks.take k ++ [ks.getD k ByteArray.empty] := by
    rw [List.take_succ_eq_append_getElem hk, List.getD, List.getElem?_eq_getElem hk]
    rfl
  funext t
  unfold restr upd lookF
  rw [e]
  by_cases h : t = (ks.getD k ByteArray.empty).data.toList
  · subst h
    rw [if_pos (by simp), if_pos rfl]
    cases hx : F (ks.getD k ByteArray.empty).data.toList
    · rw [hx] at hF; cases hF
    · rfl
  · rw [if_neg h]
    simp only [List.map_append, List.map_cons, List.map_nil, List.mem_append, List.mem_singleton, h, or_false]

theorem hdr_upd {w : World} {F : List UInt8 → Option (Option (List ByteArray))} {f : List UInt8 → Option Value} (h : ∀ s, (F s = none ∧ f s = none) ∨ ∃ x p n c, F s = some x ∧ f s = some (.slice p n c) ∧ SliceIs w p n c x)
    (s : List UInt8) {x : Option (List ByteArray)} {p : Option Addr} {n c : Nat} (hS : SliceIs w p n c x) :
    ∀ t, (upd F s x t = none ∧ upd f s (.slice p n c) t = none) ∨ ∃ x' p' n' c', upd F s x t = some x' ∧ upd f s (.slice p n c) t = some (.slice p' n' c') ∧ SliceIs w p' n' c' x' := by
  intro t
  unfold upd
  by_cases e : t = s
  · exact Or.inr ⟨x, p, n, c, if_pos e, if_pos e, hS⟩
  · simp only [if_neg e]
    exact h t

theorem hdr_none {w : World} {F : List UInt8 → Option (Option (List ByteArray))} {f : List UInt8 → Option Value} (h : ∀ s, (F s = none ∧ f s = none) ∨ ∃ x p n c, F s = some x ∧ f s = some (.slice p n c) ∧ SliceIs w p n c x) {s : List UInt8} (hs : F s = none) : f s = none := by
  rcases h s with ⟨_, h2⟩ | ⟨x, p, n, c, h1, _⟩
  · exact h2
  · rw [hs] at h1; cases h1

set_option maxRecDepth 100000 in
set_option maxHeartbeats 1000000 in
theorem copyHeaders_some (b0 : Nat) (m : Nat) (F : List UInt8 → Option (Option (List ByteArray))) (p : Option Addr) (n c : Nat) (x : Option (List ByteArray)) (w : World) (hH : HdrAt w (some b0) m F) (hS : SliceIs w p n c x) (hn : n ≤ 4096)
    (hall : ∀ a, a < n → (F ((x.getD []).getD a ByteArray.empty).data.toList).isSome = true) (hap : ∀ a b, a < b → b < n → (x.getD []).getD a ByteArray.empty ≠ (x.getD []).getD b ByteArray.empty)
    (hsh : ∀ a, a < n → ((lookF F ((x.getD []).getD a ByteArray.empty)).getD []).length ≤ 1048576) :
    Calls Try.prog 9 #[.map (some b0), .slice p n c] w fun e w' => e = .returned (.map (some w.heap.size)) ∧ HdrAt w' (some w.heap.size) n (restr F (x.getD [])) ∧ Below w.heap.size w w' := by
  have he := fun w => run_eql_map_nil (P := Try.prog) w 23 9 24 (some b0) Try.underlying23
  have hmm := fun w => makeMap_hint Try.underlying23 w n
  have hlen := hS.len
  have HA := hide hall
  have HB := hide hap
  have HC := hide hsh
  clear hall hap hsh
  go_enter Try.func9, Try.ntmps9
  go_wp2
  go_loopw [6] (fun i wr => ∃ k : Nat, k ≤ n ∧ i = .int .i64 k ∧ HdrAt wr (some w.heap.size) k (restr F ((x.getD []).take k)) ∧ Below w.heap.size w wr) (fun i _ => n - (intOf i).toNat)
  case atStart => exact ⟨0, Nat.zero_le _, rfl, ⟨_, MapAt.made w, fun s => Or.inl ⟨by simp [restr], rfl⟩⟩, (Below.refl _ _).alloc (Nat.le_refl _) _⟩
  case round =>
    obtain ⟨k, hk, rfl, hO, hnx⟩ := hrel
    by_cases hlt : k < n
    · obtain ⟨b, off, rfl, hb, hc⟩ := hS.at (by omega)
      have hcell := (hnx.cell (p := ⟨b, off + k, none⟩) hb).trans (hc k hlt)
      have hsz := hS.size_at k
      have H1 := hide (HA.out k hlt)
      have H2 := hide (HC.out k hlt)
      have H3 := hide (restr_miss F (x.getD []) k (by omega) (by rw [hlen]; exact HB.out))
      have H4 := hide (restr_step F (x.getD []) k (by omega) (HA.out k hlt))
      generalize (x.getD []).getD k ByteArray.empty = s at *
      obtain ⟨f, hM, hF⟩ := hH.below hnx
      have HF := hide hF
      obtain ⟨g, hG, hgF⟩ := hO
      have HG := hide hgF
      clear hF hgF hc
      have hM1 : MapVal wr.drew (some b0) m f := hM.drewN 1
      obtain ⟨q, l, cq, hlk, hat⟩ := hM1.look Try.underlying23 hsz
      have hSl := hdr_look HF.out s hat
      have hl1 : l ≤ 1048576 := by rw [← hSl.len]; exact H2.out
      have i1 : (k : Int) < (n : Int) := by omega
      have i0 : (0 : Int) ≤ (k : Int) := by omega
      clear hat
      go_wp2
      go_region_held3 (fun w' => w'.cell? ⟨b, off + k, none⟩ = some (.string s)) (first | exact cells_turned ht2 _ _ (cells_below hB1 _ _ hcell) | exact cells_below hB1 _ _ hcell | go_keep)
        (first | (go_at_call 10; refine (copyStrings_any q l cq (lookF F s) _ ?_ hl1).mono ?_; exact hSl.kept (fun a v h => h); rintro e w1 ⟨p', c', rfl, hS1, hB1⟩; obtain ⟨w2, hup, hG2, ht2⟩ := MapAt.store (MapAt.kept (w' := w1) hG (hB1.block _ (MapAt.lt hG))) Try.underlying23 (by unfold maxLen; omega) hsz p' l c'))
      go_wp2
      have hg0 := hdr_none HG.out H3.out
      rw [hg0, if_neg (by simp)] at hG2
      have hb2 : Below w.heap.size w w1 := hnx.drew.trans (hB1.mono hnx.size)
      go_roundw
      case rel =>
        refine ⟨k + 1, by omega, by go_num, ?_, hb2.grown ht2.grown hb2.size (fun j hj => by cases hj; exact Nat.le_refl _)⟩
        rw [H4.out]
        exact ⟨_, hG2, hdr_upd (hdr_kept HG.out (fun a v h => cells_turned ht2 a v (cells_below hB1 a v h))) _ (hS1.kept (cells_turned ht2))⟩
      case measure => simp [intOf]; omega
    · go_wp2
      go_ret
      have e : (x.getD []).take k = x.getD [] := List.take_of_length_le (by omega)
      have e2 : k = n := by omega
      rw [e] at hO
      subst e2
      exact ⟨rfl, hO, hnx⟩

set_option maxRecDepth 100000 in
theorem copyHeaders_nil (p : Option Addr) (n c : Nat) (w : World) : Calls Try.prog 9 #[.map none, .slice p n c] w fun e w' => e = .returned (.map none) ∧ w' = w := by
  have he := fun w => run_eql_map_nil (P := Try.prog) w 23 9 24 none Try.underlying23
  go_enter Try.func9, Try.ntmps9
  go_wp2
  go_ret
  exact ⟨rfl, rfl⟩

theorem vb1_le (F : List UInt8 → Option (Option (List ByteArray))) (ks : List ByteArray) (a : Nat) (ha : a < ks.length) : vb1 F (ks.getD a ByteArray.empty) ≤ vb F ks := by
  have h1 := vb_snoc F ks a ha
  have h2 := vb_nonneg F (ks.take a)
  have h3 : vb F ks = vb F (ks.take (a + 1)) + vb F (ks.drop (a + 1)) := by
    unfold vb
    rw [← List.sum_append, ← List.map_append, List.take_append_drop]
  have h4 := vb_nonneg F (ks.drop (a + 1))
  omega

/-- zzCopyHeaders: the contents, narrowed to the listed keys, in new memory; nil stays nil. -/
theorem copyHeaders_any (v : Option Nat) (m : Nat) (F : List UInt8 → Option (Option (List ByteArray))) (p : Option Addr) (n c : Nat) (x : Option (List ByteArray)) (w : World) (hH : HdrAt w v m F) (hS : SliceIs w p n c x) (hn : n ≤ 4096) (base : Int) (h0 : 0 ≤ base) (hG : Good F m (x.getD []) base) :
    Calls Try.prog 9 #[.map v, .slice p n c] w fun e w' => ∃ v', e = .returned (.map v') ∧ v'.isNone = v.isNone ∧ HdrAt w' v' n (restr F (x.getD [])) ∧ Below w.heap.size w w' := by
  have hlen := hS.len
  cases v with
  | none =>
    refine (copyHeaders_nil p n c w).mono ?_
    rintro e w' ⟨rfl, rfl⟩
    obtain ⟨f, ⟨hm, hf⟩, _⟩ := hH
    have h1 := hG.len
    have hn0 : n = 0 := by omega
    refine ⟨none, rfl, rfl, ⟨fun _ => none, ⟨hn0, rfl⟩, fun s => Or.inl ⟨?_, rfl⟩⟩, Below.refl _ _⟩
    have : x.getD [] = [] := List.eq_nil_of_length_eq_zero (by omega)
    simp [restr, this]
  | some b =>
    refine (copyHeaders_some b m F p n c x w hH hS hn (fun a ha => hG.all a (by omega)) (fun a b hab hb => hG.apart a b hab (by omega)) (fun a ha => ?_)).mono ?_
    · have h1 := vb1_le F (x.getD []) a (by omega)
      have h2 := hG.bytes
      have h3 := kb_nonneg (x.getD [])
      have h4 := bs_nonneg ((lookF F ((x.getD []).getD a ByteArray.empty)).getD [])
      unfold vb1 at h1
      omega
    · rintro e w' ⟨rfl, h1, h2⟩
      exact ⟨_, rfl, rfl, h1, h2⟩

end Go.Proofs.Qxb6602802a
