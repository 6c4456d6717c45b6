/-
  THE WALKS OF publishedHeaders, ZZpublishedHeaders, zzSameValues. Own work.
-/
import Derived.Test.Qxb6602802aCopyH
namespace Go.Proofs.Qxb6602802a
open Go.RowKit Go.Maps

theorem key_inv {key : Value} {kl : Lit} (h : keyOf Try.prog 9 key = some kl) : ∃ s : ByteArray, key = .string s ∧ kl = .string s.data.toList ∧ s.size ≤ maxLen := by
  rw [keyOf_string Try.underlying9] at h
  unfold mapKey at h
  rw [Try.underlying9] at h
  cases key <;> simp at h
  exact ⟨_, rfl, h.2.symm, h.1⟩

/-- The range's step, keys strings, elements slices. -/
theorem wpList_next_hdr (w : World) {ops : Array Oper} {rest : List Oper} {o : Oper} {a : Act} {Q : Exit → Act → World → Prop} (hg : o.guard = none) (it : Operand) (hop : o.op = Op.next it false) (b r n : Nat) (D : DataW Value) (left : Lit → Bool) (cnt : Nat)
    (hit : a.eval it = .pointer (some ⟨r, 0, none⟩)) (h : w.ranges Try.prog 9 svE b r n D left cnt)
    (hDone : cnt = 0 → (∀ kl, left kl = false) → wpList Try.prog ops Q rest (a.put o.dst (.tuple #[.bool false])) w)
    (hMore : ∀ (s : ByteArray) (p : Option Addr) (l c : Nat) (w' : World) (cnt' : Nat), s.size ≤ maxLen → left (.string s.data.toList) = true → (∀ zd, D.atKey (.string s.data.toList) zd = .held (.slice p l c)) →
      w'.ranges Try.prog 9 svE b r n D (fun z => left z && !z.sameKey (.string s.data.toList)) cnt' → cnt' < cnt →
      w.grownBy w' (some r) → w'.heap.size = w.heap.size → (Instr.entry (.pointer (some ⟨r, 0, none⟩))).run Try.prog w' = .ok (.tuple #[.string s, .slice p l c]) w' → wpList Try.prog ops Q rest (a.put o.dst (.tuple #[.bool true, .string s, .slice p l c])) w') :
    wpList Try.prog ops Q (o :: rest) a w :=
  wpList_next_ranges w hg it hop 9 law9 svE Value.string (fun q : Option Addr × Nat × Nat => Value.slice q.1 q.2.1 q.2.2) (fun key kl hk => by obtain ⟨s, rfl, _⟩ := key_inv hk; exact ⟨s, rfl⟩)
    (fun v y hv => by obtain ⟨p, l, c, rfl, _⟩ := svE_inv hv; exact ⟨(p, l, c), rfl⟩) b r n D left cnt hit h hDone
    (fun s q kl y w' cnt' hkey hlk hv hat hrg hlt hgr hsz hen => by
      obtain ⟨s', es, rfl, hs⟩ := key_inv hkey
      cases es
      obtain ⟨p, l, c⟩ := q
      obtain ⟨p', l', c', ev, rfl⟩ := svE_inv hv
      cases ev
      exact hMore s p l c w' cnt' hs hlk hat hrg hlt hgr hsz hen)

/-- "Tx1-Key". -/
def KH : ByteArray := ⟨#[84, 120, 49, 45, 75, 101, 121]⟩

/-- How many headers a message of m headers is published with, where it has a key. -/
def mNew (F : List UInt8 → Option (Option (List ByteArray))) (m : Nat) : Nat := if (F KH.data.toList).isSome then m else m + 1

/-- What they hold. -/
def fNew (F : List UInt8 → Option (Option (List ByteArray))) (key : ByteArray) : List UInt8 → Option (Option (List ByteArray)) := upd F KH.data.toList (some [key])

set_option maxRecDepth 100000 in
theorem pub_empty (id sub : ByteArray) (pl : Value) (v : Option Nat) (key : ByteArray) (w : World) (hk : key.toList.isEmpty = true) :
    Calls Try.prog 20 #[.agg #[.string id, .string sub, pl, .map v, .string key]] w fun e w' => e = .returned (.map v) ∧ Below w.heap.size w w' := by
  go_enter Try.func20, Try.ntmps20
  go_wp2
  go_ret
  exact ⟨rfl, (Below.refl _ _).alloc (Nat.le_refl _) _⟩

set_option maxRecDepth 100000 in
set_option maxHeartbeats 1000000 in
theorem pub_some (id sub : ByteArray) (pp : Option Addr) (pn pc : Nat) (b : Nat) (m : Nat) (F : List UInt8 → Option (Option (List ByteArray))) (key : ByteArray) (w : World) (hH : HdrAt w (some b) m F) (hm : m ≤ 8192) (hks : key.size ≤ maxLen) (hk : key.toList.isEmpty = false) :
    Calls Try.prog 20 #[.agg #[.string id, .string sub, .slice pp pn pc, .map (some b), .string key]] w fun e w' => ∃ B, e = .returned (.map (some B)) ∧ HdrAt w' (some B) (mNew F m) (fNew F key) ∧ Below w.heap.size w w' := by
  obtain ⟨f, hM, hF⟩ := hH
  obtain ⟨D0, hown, hsize, hview⟩ := hM
  have hM : MapVal w (some b) m f := ⟨D0, hown, hsize, hview⟩
  have HF := hide hF
  have HV := hide hview
  clear hF hview
  have hmm := fun w => makeMap_hint Try.underlying40 w (m + 1)
  have hbl := hown.lt
  have Hsz := hide hsize
  clear hsize
  go_enter Try.func20, Try.ntmps20
  go_wp2_with (first
    | (at_len; refine wpList_len _ rfl _ 40 rfl Try.underlying40 (some b) m f rfl (hM.below ((Below.refl _ _).alloc (Nat.le_refl _) _)) ?_)
    | (at_range; refine wpList_range_own _ rfl _ 40 rfl 9 24 law9 Try.underlying40 _ b m _ rfl ((hown.alloc _).alloc _) ?_; intro w0 hrg0 hg0 hs0)
    | go_in)
  go_frame
  have e2 : ((w.alloc (.cells #[.string id, .string sub, .slice pp pn pc, .map (some b), .string key] 42)).alloc (.map #[] 0)).heap.size = w.heap.size + 2 := by simp
  rw [e2] at hrg0 hs0 ⊢
  have hmade := World.ownsMap_made (w.alloc (.cells #[.string id, .string sub, .slice pp pn pc, .map (some b), .string key] 42)) Try.prog 9 svE
  have hb0 : Below (w.heap.size + 1) (w.alloc (.cells #[.string id, .string sub, .slice pp pn pc, .map (some b), .string key] 42)) w0 := ((Below.refl _ _).alloc (by simp) _).grown hg0 (by simp) (fun j hj => by cases hj)
  have hmade0 := hmade.kept hg0 (by simp)
  have hcellW : (w.alloc (.cells #[.string id, .string sub, .slice pp pn pc, .map (some b), .string key] 42)).cell? ⟨w.heap.size, 4, none⟩ = some (.string key) := by simp
  have hBW : Below w.heap.size w (w.alloc (.cells #[.string id, .string sub, .slice pp pn pc, .map (some b), .string key] 42)) := (Below.refl _ _).alloc (Nat.le_refl _) _
  have e1 : (w.alloc (.cells #[.string id, .string sub, .slice pp pn pc, .map (some b), .string key] 42)).heap.size = w.heap.size + 1 := by simp
  rw [e1] at hmade0
  clear hmade hg0 e2
  generalize w.alloc (.cells #[.string id, .string sub, .slice pp pn pc, .map (some b), .string key] 42) = W1 at *
  have E1 := hide e1
  clear e1 hs0
  go_loopw [4] (fun _ wr => ∃ (left : Lit → Bool) (cnt : Nat) (Dout : DataW Value), wr.ranges Try.prog 9 svE b (w.heap.size + 2) m D0 left cnt ∧ cnt ≤ m ∧
      wr.ownsMap Try.prog 9 svE (w.heap.size + 1) (m - cnt) Dout ∧ Agree Dout D0 left ∧ Below (w.heap.size + 1) W1 wr)
    (fun _ wr => wr.rangeLeft b (w.heap.size + 2))
  case atStart =>
    exact ⟨_, _, .map [], hrg0, by rw [Hsz.out]; exact Nat.le_refl _, hmade0.mono (Nat.zero_le _), agree_start D0, hb0⟩
  case round =>
    obtain ⟨left, cnt, Dout, hrg, hcs, hout, hA, hnx⟩ := hrel
    go_wp2_with (first
      | (at_next; refine wpList_next_hdr _ rfl _ rfl b (w.heap.size + 2) m _ _ _ rfl hrg ?_ ?_)
      | go_in)
    · intro hc0 hl0
      have hcell := (hnx.cell (p := ⟨w.heap.size, 4, none⟩) (by exact Nat.lt_succ_self _)).trans hcellW
      have hfin : MapAt wr (w.heap.size + 1) m f := by
        have e := agree_end hA hl0 (hout.canon law9) (hown.canon law9)
        subst e
        subst hc0
        exact ⟨Dout, hout, Hsz.out, HV.out⟩
      have hnew : Below wr.heap.size wr (wr.alloc (.cells #[.string key] 9)) := (Below.refl _ _).alloc (Nat.le_refl _) _
      have hkc : (wr.alloc (.cells #[.string key] 9)).cell? ⟨wr.heap.size, 0, none⟩ = some (.string key) := by simp
      clear hA hl0 hout hrg
      go_wp2_with (first
        | (at_mapUpdate; refine wpList_store _ rfl _ _ _ 40 rfl Try.underlying40 (w.heap.size + 1) m f rfl (hfin.kept (hnew.block _ hfin.lt)) (by unfold maxLen; omega) KH (some ⟨wr.heap.size, 0, none⟩) 1 1 rfl (by decide) rfl ?_; intro w2 hat2 ht2)
        | go_in)
      go_ret
      have hb1 : Below w.heap.size w wr := hBW.trans (hnx.mono (Nat.le_succ _))
      have hcs1 : ∀ a v, w.cell? a = some v → w2.cell? a = some v := fun a v h => cells_turned ht2 a v (cells_below hnew a v (cells_below hb1 a v h))
      rw [hdr_isSome HF.out] at hat2
      refine ⟨_, rfl, ⟨_, hat2, hdr_upd (hdr_kept HF.out hcs1) _ ?_⟩, (hb1.alloc hb1.size _).grown ht2.grown (by have := hb1.size; simp; omega) (fun j hj => by cases hj; exact Nat.le_succ _)⟩
      refine ⟨rfl, by decide, fun s hs => ?_, fun i hi => ?_⟩
      · simp at hs; rw [hs]; exact hks
      · obtain rfl : i = 0 := by omega
        have := cells_turned ht2 _ _ hkc
        simpa [Addr.add] using this
    · intro s p l c w1 cnt1 hs hlx hat hrg1 hlt hg1 hs1 hen
      have hout1 := hout.kept hg1 (by simp)
      clear hs1
      go_wp2_with (first
        | (at_mapUpdate; refine wpList_mapUpdate_own _ rfl _ _ _ 40 rfl 9 24 law9 Try.underlying40 _ (w.heap.size + 1) _ _ rfl hout1 (by unfold maxLen; omega) _ _ _ rfl rfl (keyOf_str hs) _ [] (svE_mk p l c) ?_; intro w2 hout2 hg2; go_frame)
        | go_in)
      have hrg2 := hrg1.kept hg2 (fun e => by have := Option.some.inj e; omega) (fun e => by have := Option.some.inj e; omega)
      go_roundw
      case rel =>
        exact ⟨_, cnt1, _, hrg2, by omega, hout2.mono (by omega), agree_step hA hout.isMap trivial hat,
          (hnx.grown hg1 (by have := hnx.size; rw [E1.out] at this; exact this) (fun j hj => by cases hj; exact Nat.le_succ _)).grown hg2 (by have := hnx.size; have := hg1.size; rw [E1.out] at *; omega) (fun j hj => by cases hj; exact Nat.le_refl _)⟩
      case measure => rw [hrg2.left_eq, hrg.left_eq]; exact hlt

set_option maxRecDepth 100000 in
set_option maxHeartbeats 1000000 in
theorem pub_nil (id sub : ByteArray) (pp : Option Addr) (pn pc : Nat) (key : ByteArray) (w : World) (hks : key.size ≤ maxLen) (hk : key.toList.isEmpty = false) :
    Calls Try.prog 20 #[.agg #[.string id, .string sub, .slice pp pn pc, .map none, .string key]] w fun e w' => ∃ B, e = .returned (.map (some B)) ∧ HdrAt w' (some B) 1 (fNew (fun _ => none) key) ∧ Below w.heap.size w w' := by
  have hmm := fun w => makeMap_hint Try.underlying40 w 1
  have hln := fun w ty => Maps.len_nil (P := Try.prog) (w := w) Try.underlying40 ty
  have hrg := run_range_nilMap (P := Try.prog) ((w.alloc (.cells #[.string id, .string sub, .slice pp pn pc, .map none, .string key] 42)).alloc (.map #[] 0)) 40 9 24 Try.underlying40
  have hnx : ∀ ty, (Instr.next (.pointer (some ⟨((w.alloc (.cells #[.string id, .string sub, .slice pp pn pc, .map none, .string key] 42)).alloc (.map #[] 0)).heap.size, 0, none⟩)) false ty).run Try.prog (((w.alloc (.cells #[.string id, .string sub, .slice pp pn pc, .map none, .string key] 42)).alloc (.map #[] 0)).alloc (.mapIter none 0 #[] 0)) = _ := fun ty => run_next_nilMap _ ty 0 0 #[]
  have e2 : ((w.alloc (.cells #[.string id, .string sub, .slice pp pn pc, .map none, .string key] 42)).alloc (.map #[] 0)).heap.size = w.heap.size + 2 := by simp
  rw [e2] at hrg hnx
  have hm4 : MapAt ((((w.alloc (.cells #[.string id, .string sub, .slice pp pn pc, .map none, .string key] 42)).alloc (.map #[] 0)).alloc (.mapIter none 0 #[] 0)).alloc (.cells #[.string key] 9)) (w.heap.size + 1) 0 (fun _ => none) := by
    have h := MapAt.made (w.alloc (.cells #[.string id, .string sub, .slice pp pn pc, .map none, .string key] 42))
    have e1 : (w.alloc (.cells #[.string id, .string sub, .slice pp pn pc, .map none, .string key] 42)).heap.size = w.heap.size + 1 := by simp
    rw [e1] at h
    exact (h.kept (Below.heap_alloc _ _ _ h.lt)).kept (Below.heap_alloc _ _ _ (by simp))
  have hb4 : Below w.heap.size w ((((w.alloc (.cells #[.string id, .string sub, .slice pp pn pc, .map none, .string key] 42)).alloc (.map #[] 0)).alloc (.mapIter none 0 #[] 0)).alloc (.cells #[.string key] 9)) :=
    ((((Below.refl _ _).alloc (Nat.le_refl _) _).alloc (by simp) _).alloc (by simp; omega) _).alloc (by simp; omega) _
  have hc4 : ((((w.alloc (.cells #[.string id, .string sub, .slice pp pn pc, .map none, .string key] 42)).alloc (.map #[] 0)).alloc (.mapIter none 0 #[] 0)).alloc (.cells #[.string key] 9)).cell? ⟨w.heap.size + 3, 0, none⟩ = some (.string key) := by
    rw [World.cell?_alloc_at _ _ _ _ (by simp)]; rfl
  have HM4 := hide hm4
  have HB4 := hide hb4
  have HC4 := hide hc4
  clear hm4 hb4 hc4
  go_enter Try.func20, Try.ntmps20
  go_wp2
  refine wp_loop_rounds 1 ?_
  rw [rounds_succ]
  go_wp2_with (first
    | (at_mapUpdate; refine wpList_store _ rfl _ _ _ 40 rfl Try.underlying40 (w.heap.size + 1) 0 (fun _ => none) rfl HM4.out (by decide) KH (some ⟨w.heap.size + 3, 0, none⟩) 1 1 rfl (by decide) rfl ?_; intro w2 hat2 ht2)
    | go_in)
  go_ret
  have hsz4 := HB4.out.size
  refine ⟨_, rfl, ⟨_, hat2, hdr_upd (F := fun _ => none) (f := fun _ => none) (fun s => Or.inl ⟨rfl, rfl⟩) _ ?_⟩, HB4.out.grown ht2.grown hsz4 (fun j hj => by cases hj; exact Nat.le_succ _)⟩
  refine ⟨rfl, by decide, fun s hs => ?_, fun i hi => ?_⟩
  · simp at hs; rw [hs]; exact hks
  · obtain rfl : i = 0 := by omega
    have := cells_turned ht2 _ _ HC4.out
    simpa [Addr.add] using this

/-- publishedHeaders of a message with a key. -/
theorem pub_key (id sub : ByteArray) (pp : Option Addr) (pn pc : Nat) (v : Option Nat) (m : Nat) (F : List UInt8 → Option (Option (List ByteArray))) (key : ByteArray) (w : World) (hH : HdrAt w v m F) (hm : m ≤ 8192) (hks : key.size ≤ maxLen) (hk : key.toList.isEmpty = false) :
    Calls Try.prog 20 #[.agg #[.string id, .string sub, .slice pp pn pc, .map v, .string key]] w fun e w' => ∃ B, e = .returned (.map (some B)) ∧ HdrAt w' (some B) (mNew F m) (fNew F key) ∧ Below w.heap.size w w' := by
  cases v with
  | some b => exact pub_some id sub pp pn pc b m F key w hH hm hks hk
  | none =>
    obtain ⟨f, ⟨rfl, rfl⟩, hF⟩ := hH
    have hF0 : F = fun _ => none := by
      funext s
      rcases hF s with ⟨h, _⟩ | ⟨x, p, n, c, _, h, _⟩
      · exact h
      · cases h
    subst hF0
    exact pub_nil id sub pp pn pc key w hks hk

set_option maxRecDepth 100000 in
/-- ZZpublishedHeaders, no key. -/
theorem zpub_empty (id sub : ByteArray) (pp : Option Addr) (pn pc : Nat) (v : Option Nat) (key : ByteArray) (w : World) (hk : key.toList.isEmpty = true) :
    Calls Try.prog 13 #[.string id, .string sub, .slice pp pn pc, .map v, .string key] w fun e w' => e = .returned (.map v) ∧ Below w.heap.size w w' := by
  go_enter Try.func13, Try.ntmps13
  go_wp2_with (go_at_call 20; refine (pub_empty id sub _ v key _ hk).mono ?_; rintro e w' ⟨rfl, hb⟩)
  go_ret
  exact ⟨rfl, hb⟩

set_option maxRecDepth 100000 in
/-- ZZpublishedHeaders, with a key. -/
theorem zpub_key (id sub : ByteArray) (pp : Option Addr) (pn pc : Nat) (v : Option Nat) (m : Nat) (F : List UInt8 → Option (Option (List ByteArray))) (key : ByteArray) (w : World) (hH : HdrAt w v m F) (hm : m ≤ 8192) (hks : key.size ≤ maxLen) (hk : key.toList.isEmpty = false) :
    Calls Try.prog 13 #[.string id, .string sub, .slice pp pn pc, .map v, .string key] w fun e w' => ∃ B, e = .returned (.map (some B)) ∧ HdrAt w' (some B) (mNew F m) (fNew F key) ∧ Below w.heap.size w w' := by
  go_enter Try.func13, Try.ntmps13
  go_wp2_with (go_at_call 20; refine (pub_key id sub pp pn pc v m F key _ hH hm hks hk).mono ?_; rintro e w' ⟨B, rfl, hh, hb⟩)
  go_ret
  exact ⟨B, rfl, hh, hb⟩

end Go.Proofs.Qxb6602802a
