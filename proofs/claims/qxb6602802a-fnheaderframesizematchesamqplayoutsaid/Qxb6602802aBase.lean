/-
  THE GROUND OF THIS SEAT's PROOFS: a map[string][]string told as a function from keys to slice headers; a []string told by its strings; a map of headers told by its contents. Own work.
-/
import Derived.Test.Qxb6602802aRows
import Derived.WalkKit
import Derived.ProofKit
import Derived.WalkSpells
import Derived.WalkLawsBesides
import Derived.Maps.Ext
import Derived.Maps.RangeWalk
namespace Go.Proofs.Qxb6602802a
open Go.RowKit Go.Maps

theorem hide {p : Prop} (h : p) : Hid p := h
theorem law9 : Keyed Try.prog 9 := string_keyed Try.underlying9
theorem zero24 (w : World) : (zeroValue 24).run Try.prog w = .ok (.slice none 0 0) w := by kernel_rfl

/-! ### the map's elements as slice headers -/
def svE : Value → Option (DataW Value × List MemPlace)
  | .slice a n c => some (.held (.slice a n c), [])
  | _ => none

theorem svE_mk (a : Option Addr) (n c : Nat) : svE (.slice a n c) = some (.held (.slice a n c), []) := rfl

theorem svE_inv {v : Value} {y : DataW Value × List MemPlace} (h : svE v = some y) : ∃ a n c, v = .slice a n c ∧ y = (.held (.slice a n c), []) := by
  unfold svE at h
  split at h
  · exact ⟨_, _, _, rfl, (Option.some.inj h).symm⟩
  · cases h

def unheld : DataW Value → Value
  | .held v => v
  | _ => .slice none 0 0

def nilD : DataW Value := .held (.slice none 0 0)

def view (D : DataW Value) (s : List UInt8) : Option Value := if has D (.string s) then some (unheld (D.atKey (.string s) nilD)) else none

/-- Block b is a map of m entries; at key s it holds the slice header f s. -/
def MapAt (w : World) (b m : Nat) (f : List UInt8 → Option Value) : Prop := ∃ D : DataW Value, w.ownsMap Try.prog 9 svE b m D ∧ Maps.size D = m ∧ view D = f

theorem ownsMap_exact {w : World} {b n : Nat} {D : DataW Value} (h : w.ownsMap Try.prog 9 svE b n D) : w.ownsMap Try.prog 9 svE b (Maps.size D) D := by
  obtain ⟨es, clock, hb, F, _, rfl⟩ := h
  exact ⟨es, clock, hb, F, by simp [Maps.size, length_sorted], rfl⟩

theorem MapAt.of_owns {w : World} {b n : Nat} {D : DataW Value} (h : w.ownsMap Try.prog 9 svE b n D) : MapAt w b (Maps.size D) (view D) := ⟨D, ownsMap_exact h, rfl, rfl⟩

theorem MapAt.lt {w : World} {b m : Nat} {f : List UInt8 → Option Value} (h : MapAt w b m f) : b < w.heap.size := by
  obtain ⟨D, h, _⟩ := h
  exact h.lt

theorem MapAt.isMap {w : World} {b m : Nat} {f : List UInt8 → Option Value} (h : MapAt w b m f) : ∃ es clock, w.heap[b]? = some (.map es clock) := by
  obtain ⟨D, ⟨es, clock, hb, _⟩, _⟩ := h
  exact ⟨es, clock, hb⟩

theorem MapAt.kept {w w' : World} {b m : Nat} {f : List UInt8 → Option Value} (h : MapAt w b m f) (hb : w'.heap[b]? = w.heap[b]?) : MapAt w' b m f := by
  obtain ⟨D, ⟨es, clock, hb0, r⟩, r2⟩ := h
  exact ⟨D, ⟨es, clock, hb.trans hb0, r⟩, r2⟩

theorem view_empty : view (.map []) = fun _ => none := rfl

theorem MapAt.made (w : World) : MapAt (w.alloc (.map #[] 0)) w.heap.size 0 (fun _ => none) :=
  ⟨.map [], World.ownsMap_made _ _ _ _, rfl, rfl⟩

def upd {β : Type} (f : List UInt8 → Option β) (s : List UInt8) (v : β) : List UInt8 → Option β := fun t => if t = s then some v else f t

theorem view_put {D : DataW Value} (hD : IsMap D) (s : List UInt8) (v : Value) : view (D.put (.string s) (.held v)) = upd (view D) s v := by
  funext t
  unfold view upd
  by_cases e : t = s
  · subst e
    have hk : WideAt.IsKeyLit (Lit.string t) := trivial
    rw [has_put_same hD hk, atKey_put_same hD hk, if_pos rfl, if_pos rfl]
    rfl
  · have e' : Lit.string t ≠ Lit.string s := fun h => e (by cases h; rfl)
    rw [has_put_other e', atKey_put_other e', if_neg e]

theorem view_isSome (D : DataW Value) (s : List UInt8) : (view D s).isSome = has D (.string s) := by
  unfold view
  cases has D (.string s) <;> rfl

theorem keyOf_str {s : ByteArray} (hs : s.size ≤ maxLen) : keyOf Try.prog 9 (.string s) = some (.string s.data.toList) := WideMaps.keyOf_string_mk Try.underlying9 hs

theorem MapAt.look {w : World} {b m : Nat} {f : List UInt8 → Option Value} (h : MapAt w b m f) {t : TypeId} (ht : Try.prog.underlying t = some (.map 9 24)) {s : ByteArray} (hs : s.size ≤ maxLen) :
    ∃ a n c, (Instr.lookup t (.map (some b)) (.string s) false).run Try.prog w = .ok (.slice a n c) w ∧ (f s.data.toList).getD (.slice none 0 0) = .slice a n c := by
  obtain ⟨D, hown, _, rfl⟩ := h
  obtain ⟨v, ps, hrun, hv⟩ := hown.lookup law9 ht (zero24 w) (svE_mk none 0 0) (keyOf_str hs)
  obtain ⟨a, n, c, rfl, hy⟩ := svE_inv hv
  refine ⟨a, n, c, hrun, ?_⟩
  have e := congrArg Prod.fst hy
  simp only at e
  unfold view
  cases hh : has D (.string s.data.toList)
  · rw [atKey_of_not_has hh] at e
    cases e
    rfl
  · simp only [if_true, Option.getD_some, nilD, e, unheld]

theorem MapAt.look_ok {w : World} {b m : Nat} {f : List UInt8 → Option Value} (h : MapAt w b m f) {t : TypeId} (ht : Try.prog.underlying t = some (.map 9 24)) {s : ByteArray} (hs : s.size ≤ maxLen) :
    ∃ a n c, (Instr.lookup t (.map (some b)) (.string s) true).run Try.prog w = .ok (.tuple #[.slice a n c, .bool (f s.data.toList).isSome]) w ∧ (f s.data.toList).getD (.slice none 0 0) = .slice a n c := by
  obtain ⟨D, hown, _, rfl⟩ := h
  obtain ⟨v, ps, hrun, hv⟩ := hown.look_ok law9 ht (zero24 w) (svE_mk none 0 0) (keyOf_str hs)
  obtain ⟨a, n, c, rfl, hy⟩ := svE_inv hv
  refine ⟨a, n, c, by rw [view_isSome]; exact hrun, ?_⟩
  have e := congrArg Prod.fst hy
  simp only at e
  unfold view
  cases hh : has D (.string s.data.toList)
  · rw [atKey_of_not_has hh] at e
    cases e
    rfl
  · simp only [if_true, Option.getD_some, nilD, e, unheld]

theorem MapAt.store {w : World} {b m : Nat} {f : List UInt8 → Option Value} (h : MapAt w b m f) {t : TypeId} (ht : Try.prog.underlying t = some (.map 9 24)) (hm : m < maxLen) {s : ByteArray} (hs : s.size ≤ maxLen) (a : Option Addr) (n c : Nat) :
    ∃ w', (Instr.mapUpdate t (.map (some b)) (.string s) (.slice a n c)).run Try.prog w = .ok () w' ∧ MapAt w' b (if (f s.data.toList).isSome then m else m + 1) (upd f s.data.toList (.slice a n c)) ∧ w.mapTurned w' b := by
  obtain ⟨D, hown, hsz, rfl⟩ := h
  obtain ⟨w', hrun, hown', ht'⟩ := hown.store law9 ht hm (keyOf_str hs) (svE_mk a n c)
  refine ⟨w', hrun, ⟨_, ownsMap_exact hown' |>.mono ?_, ?_, view_put hown.isMap _ _⟩, ht'⟩
  · rw [size_put (hown.tidy law9), view_isSome, hsz]; exact Nat.le_refl _
  · rw [size_put (hown.tidy law9), view_isSome, hsz]

theorem MapAt.len {w : World} {b m : Nat} {f : List UInt8 → Option Value} (h : MapAt w b m f) {t : TypeId} (ht : Try.prog.underlying t = some (.map 9 24)) (ty : TypeId) : (Builtin.len_ #[t] ty #[.map (some b)]).run Try.prog w = .ok (.int .i64 m) w := by
  obtain ⟨D, hown, rfl, _⟩ := h
  exact hown.len ht ty

/-! ### a map value: nil, or a block -/
def MapVal (w : World) (v : Option Nat) (m : Nat) (f : List UInt8 → Option Value) : Prop :=
  match v with
  | none => m = 0 ∧ f = fun _ => none
  | some b => MapAt w b m f

theorem MapVal.look {w : World} {v : Option Nat} {m : Nat} {f : List UInt8 → Option Value} (h : MapVal w v m f) {t : TypeId} (ht : Try.prog.underlying t = some (.map 9 24)) {s : ByteArray} (hs : s.size ≤ maxLen) :
    ∃ a n c, (Instr.lookup t (.map v) (.string s) false).run Try.prog w = .ok (.slice a n c) w ∧ (f s.data.toList).getD (.slice none 0 0) = .slice a n c := by
  cases v with
  | none =>
    obtain ⟨_, rfl⟩ := h
    exact ⟨none, 0, 0, Maps.look_nil false law9 ht (zero24 w) (keyOf_str hs), rfl⟩
  | some b => exact MapAt.look h ht hs

theorem MapVal.look_ok {w : World} {v : Option Nat} {m : Nat} {f : List UInt8 → Option Value} (h : MapVal w v m f) {t : TypeId} (ht : Try.prog.underlying t = some (.map 9 24)) {s : ByteArray} (hs : s.size ≤ maxLen) :
    ∃ a n c, (Instr.lookup t (.map v) (.string s) true).run Try.prog w = .ok (.tuple #[.slice a n c, .bool (f s.data.toList).isSome]) w ∧ (f s.data.toList).getD (.slice none 0 0) = .slice a n c := by
  cases v with
  | none =>
    obtain ⟨_, rfl⟩ := h
    exact ⟨none, 0, 0, Maps.look_nil true law9 ht (zero24 w) (keyOf_str hs), rfl⟩
  | some b => exact MapAt.look_ok h ht hs

theorem MapVal.len {w : World} {v : Option Nat} {m : Nat} {f : List UInt8 → Option Value} (h : MapVal w v m f) {t : TypeId} (ht : Try.prog.underlying t = some (.map 9 24)) (ty : TypeId) : (Builtin.len_ #[t] ty #[.map v]).run Try.prog w = .ok (.int .i64 m) w := by
  cases v with
  | none =>
    obtain ⟨rfl, _⟩ := h
    exact Maps.len_nil ht ty
  | some b => exact MapAt.len h ht ty

theorem MapVal.below {w w' : World} {v : Option Nat} {m : Nat} {f : List UInt8 → Option Value} (h : MapVal w v m f) (hb : Below w.heap.size w w') : MapVal w' v m f := by
  cases v with
  | none => exact h
  | some b => exact MapAt.kept h (hb.block b (MapAt.lt h))

/-! ### at the operations -/
section
variable (w : World) {ops : Array Oper} {rest : List Oper} {o : Oper} {a : Act} {Q : Exit → Act → World → Prop}

theorem wpList_look (hg : o.guard = none) (m x : Operand) (t : TypeId) (hop : o.op = Op.lookup t m x false) (ht : Try.prog.underlying t = some (.map 9 24))
    (v : Option Nat) (k : Nat) (f : List UInt8 → Option Value) (hm : a.eval m = .map v) (hv : MapVal w v k f) (s : ByteArray) (hx : a.eval x = .string s) (hs : s.size ≤ maxLen)
    (hK : ∀ (p : Option Addr) (n c : Nat), (f s.data.toList).getD (.slice none 0 0) = .slice p n c → wpList Try.prog ops Q rest (a.put o.dst (.slice p n c)) w) :
    wpList Try.prog ops Q (o :: rest) a w := by
  refine wpList_plain hg fun K' hK' => ?_
  obtain ⟨p, n, c, hrun, hat⟩ := hv.look ht hs
  unfold Oper.wp
  simp [execOp, hop, hm, hx, hrun, Result.andThen]
  exact hK' _ _ (hK p n c hat)

theorem wpList_look_ok (hg : o.guard = none) (m x : Operand) (t : TypeId) (hop : o.op = Op.lookup t m x true) (ht : Try.prog.underlying t = some (.map 9 24))
    (v : Option Nat) (k : Nat) (f : List UInt8 → Option Value) (hm : a.eval m = .map v) (hv : MapVal w v k f) (s : ByteArray) (hx : a.eval x = .string s) (hs : s.size ≤ maxLen)
    (hK : ∀ (p : Option Addr) (n c : Nat), (f s.data.toList).getD (.slice none 0 0) = .slice p n c → wpList Try.prog ops Q rest (a.put o.dst (.tuple #[.slice p n c, .bool (f s.data.toList).isSome])) w) :
    wpList Try.prog ops Q (o :: rest) a w := by
  refine wpList_plain hg fun K' hK' => ?_
  obtain ⟨p, n, c, hrun, hat⟩ := hv.look_ok ht hs
  unfold Oper.wp
  simp [execOp, hop, hm, hx, hrun, Result.andThen]
  exact hK' _ _ (hK p n c hat)

theorem wpList_store (hg : o.guard = none) (m x v : Operand) (t : TypeId) (hop : o.op = Op.mapUpdate t m x v) (ht : Try.prog.underlying t = some (.map 9 24))
    (b k : Nat) (f : List UInt8 → Option Value) (hm : a.eval m = .map (some b)) (hat : MapAt w b k f) (hk : k < maxLen) (s : ByteArray) (p : Option Addr) (n c : Nat) (hx : a.eval x = .string s) (hs : s.size ≤ maxLen) (hv : a.eval v = .slice p n c)
    (hK : ∀ w', MapAt w' b (if (f s.data.toList).isSome then k else k + 1) (upd f s.data.toList (.slice p n c)) → w.mapTurned w' b → wpList Try.prog ops Q rest (a.put o.dst undef) w') :
    wpList Try.prog ops Q (o :: rest) a w := by
  refine wpList_plain hg fun K' hK' => ?_
  obtain ⟨w', hrun, r1, r2⟩ := hat.store ht hk hs p n c
  unfold Oper.wp
  simp [execOp, hop, hm, hx, hv, hrun, Result.andThen]
  exact hK' _ _ (hK w' r1 r2)

theorem wpList_len (hg : o.guard = none) (m : Operand) (t : TypeId) (hop : o.op = Op.call { callee := Callee.builtin Builtin.len, args := #[m], argTypes := #[t] }) (ht : Try.prog.underlying t = some (.map 9 24))
    (v : Option Nat) (k : Nat) (f : List UInt8 → Option Value) (hm : a.eval m = .map v) (hv : MapVal w v k f)
    (hK : wpList Try.prog ops Q rest (a.put o.dst (.int .i64 k)) w) :
    wpList Try.prog ops Q (o :: rest) a w := by
  refine wpList_plain hg fun K' hK' => ?_
  unfold Oper.wp
  simp [execOp, hop, resolve, invoke, builtin, hm, hv.len ht o.type, Result.andThen]
  exact hK' _ _ hK

end

/-! ### a slice of strings -/
/-- v is nil (x = none) or a slice that is not nil and holds the strings ss (x = some ss). -/
def SliceIs (w : World) (p : Option Addr) (n c : Nat) (x : Option (List ByteArray)) : Prop :=
  match p, x with
  | none, none => n = 0 ∧ c = 0
  | some a, some ss => ss.length = n ∧ n ≤ maxLen ∧ (∀ s ∈ ss, s.size ≤ maxLen) ∧ ∀ i, i < n → w.cell? (a.add i) = some (.string (ss.getD i ByteArray.empty))
  | _, _ => False

theorem SliceIs.len {w : World} {p : Option Addr} {n c : Nat} {x : Option (List ByteArray)} (h : SliceIs w p n c x) : (x.getD []).length = n := by
  cases p <;> cases x <;> simp only [SliceIs] at h
  · exact h.1.symm
  · exact h.1

theorem SliceIs.sizes {w : World} {p : Option Addr} {n c : Nat} {x : Option (List ByteArray)} (h : SliceIs w p n c x) : ∀ s ∈ x.getD [], s.size ≤ maxLen := by
  cases p <;> cases x <;> simp only [SliceIs] at h
  · intro s hs; cases hs
  · exact h.2.2.1

theorem SliceIs.le {w : World} {p : Option Addr} {n c : Nat} {x : Option (List ByteArray)} (h : SliceIs w p n c x) : n ≤ maxLen := by
  cases p <;> cases x <;> simp only [SliceIs] at h
  · omega
  · exact h.2.1

theorem cell_path {w : World} {a : Addr} {v : Value} (h : w.cell? a = some v) : a.block < w.heap.size := by
  unfold World.cell? at h
  by_cases hb : a.block < w.heap.size
  · exact hb
  · rw [Array.getElem?_eq_none (by omega)] at h
    simp at h

/-- Where there is an element the address is plain. -/
theorem SliceIs.at {w : World} {p : Option Addr} {n c : Nat} {x : Option (List ByteArray)} (h : SliceIs w p n c x) (hn : 0 < n) :
    ∃ b off, p = some ⟨b, off, none⟩ ∧ b < w.heap.size ∧ ∀ i, i < n → w.cell? ⟨b, off + i, none⟩ = some (.string ((x.getD []).getD i ByteArray.empty)) := by
  cases p with
  | none => cases x <;> simp only [SliceIs] at h; omega
  | some a =>
    cases x with
    | none => simp only [SliceIs] at h
    | some ss =>
      obtain ⟨_, _, _, hc⟩ := h
      obtain ⟨b, off, e⟩ := a
      have h0 := hc 0 hn
      cases e with
      | none => exact ⟨b, off, rfl, cell_path h0, fun i hi => by
        have h1 := hc i hi
        rcases Nat.eq_zero_or_pos i with rfl | h
        · simpa [Addr.add] using h1
        · simpa [Addr.add, show i ≠ 0 by omega] using h1⟩
      | some q =>
        simp only [World.cell?, Addr.add] at h0
        split at h0 <;> cases h0

/-- An element of the list, as 'getD' reads it, is a length that the form reads. -/
theorem SliceIs.size_at {w : World} {p : Option Addr} {n c : Nat} {x : Option (List ByteArray)} (h : SliceIs w p n c x) (i : Nat) : ((x.getD []).getD i ByteArray.empty).size ≤ maxLen := by
  by_cases hi : i < (x.getD []).length
  · rw [List.getD, List.getElem?_eq_getElem hi]
    exact h.sizes _ (List.getElem_mem hi)
  · rw [List.getD, List.getElem?_eq_none (by omega)]
    exact Nat.zero_le _

/-- What a slice of strings holds stays while the cells that it reads stay. -/
theorem SliceIs.kept {w w' : World} {p : Option Addr} {n c : Nat} {x : Option (List ByteArray)} (h : SliceIs w p n c x) (hc : ∀ a v, w.cell? a = some v → w'.cell? a = some v) : SliceIs w' p n c x := by
  cases p <;> cases x <;> simp only [SliceIs] at h ⊢
  · exact h
  · exact ⟨h.1, h.2.1, h.2.2.1, fun i hi => hc _ _ (h.2.2.2 i hi)⟩

theorem cells_below {w w' : World} (hb : Below w.heap.size w w') (a : Addr) (v : Value) (h : w.cell? a = some v) : w'.cell? a = some v := by
  rw [hb.cell (cell_path h)]; exact h

/-- A map's block holds no cell: a store into a map turns no cell. -/
theorem cells_turned {w w' : World} {b : Nat} (ht : w.mapTurned w' b) (a : Addr) (v : Value) (h : w.cell? a = some v) : w'.cell? a = some v := by
  obtain ⟨es, clock, es', clock', hb, rfl⟩ := ht
  by_cases e : a.block = b
  · simp [World.cell?, e, hb] at h
  · rw [World.cell?_of_block (w := w) (ChangeMaps.heap_setBlock_other hb _ e)]
    exact h

/-! ### a map of headers, told by its contents -/
def HdrAt (w : World) (v : Option Nat) (m : Nat) (F : List UInt8 → Option (Option (List ByteArray))) : Prop :=
  ∃ f, MapVal w v m f ∧ ∀ s, (F s = none ∧ f s = none) ∨ ∃ x p n c, F s = some x ∧ f s = some (.slice p n c) ∧ SliceIs w p n c x

/-- What stands at a key of the contents, as a look-up without 'ok' gives it. -/
def lookF (F : List UInt8 → Option (Option (List ByteArray))) (s : ByteArray) : Option (List ByteArray) := (F s.data.toList).getD none

theorem hdr_look {w : World} {F : List UInt8 → Option (Option (List ByteArray))} {f : List UInt8 → Option Value} (h : ∀ s, (F s = none ∧ f s = none) ∨ ∃ x p n c, F s = some x ∧ f s = some (.slice p n c) ∧ SliceIs w p n c x) (s : ByteArray) {p : Option Addr} {n c : Nat}
    (hat : (f s.data.toList).getD (.slice none 0 0) = .slice p n c) : SliceIs w p n c (lookF F s) := by
  unfold lookF
  rcases h s.data.toList with ⟨h1, h2⟩ | ⟨x, p', n', c', h1, h2, h3⟩
  · rw [h2] at hat
    rw [h1]
    cases hat
    exact ⟨rfl, rfl⟩
  · rw [h2] at hat
    rw [h1]
    cases hat
    exact h3

theorem hdr_isSome {w : World} {F : List UInt8 → Option (Option (List ByteArray))} {f : List UInt8 → Option Value} (h : ∀ s, (F s = none ∧ f s = none) ∨ ∃ x p n c, F s = some x ∧ f s = some (.slice p n c) ∧ SliceIs w p n c x) (s : List UInt8) : (f s).isSome = (F s).isSome := by
  rcases h s with ⟨h1, h2⟩ | ⟨x, p', n', c', h1, h2, h3⟩ <;> rw [h1, h2] <;> rfl

theorem hdr_kept {w w' : World} {F : List UInt8 → Option (Option (List ByteArray))} {f : List UInt8 → Option Value} (h : ∀ s, (F s = none ∧ f s = none) ∨ ∃ x p n c, F s = some x ∧ f s = some (.slice p n c) ∧ SliceIs w p n c x) (hc : ∀ a v, w.cell? a = some v → w'.cell? a = some v) :
    ∀ s, (F s = none ∧ f s = none) ∨ ∃ x p n c, F s = some x ∧ f s = some (.slice p n c) ∧ SliceIs w' p n c x := by
  intro s
  rcases h s with h1 | ⟨x, p, n, c, h1, h2, h3⟩
  · exact Or.inl h1
  · exact Or.inr ⟨x, p, n, c, h1, h2, h3.kept hc⟩

theorem HdrAt.below {w w' : World} {v : Option Nat} {m : Nat} {F : List UInt8 → Option (Option (List ByteArray))} (h : HdrAt w v m F) (hb : Below w.heap.size w w') : HdrAt w' v m F := by
  obtain ⟨f, h1, h2⟩ := h
  exact ⟨f, h1.below hb, hdr_kept h2 (cells_below hb)⟩

end Go.Proofs.Qxb6602802a
