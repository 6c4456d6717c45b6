/-
  WHAT IS KNOWN OF THE SIX ARGUMENTS, and small lemmas for the laws' walks. Own work.
-/
import Derived.Test.Qxb6602802aSame
namespace Go.Proofs.Qxb6602802a
open Go.RowKit Go.Maps

/-- What is known of the six arguments. -/
structure Ins (w : World) (id sub : ByteArray) (pp : Option Addr) (pn pc : Nat) (v : Option Nat) (m : Nat) (F : List UInt8 → Option (Option (List ByteArray))) (key : ByteArray) (kp : Option Addr) (kn kc : Nat) (x : Option (List ByteArray)) : Prop where
  id : id.size ≤ maxLen
  sub : sub.size ≤ maxLen
  pay : BytesAt w pp pn pc
  payn : pn ≤ maxLen
  hdr : HdrAt w v m F
  hdrn : m ≤ maxLen
  key : key.size ≤ maxLen
  keys : SliceIs w kp kn kc x

theorem HdrAt.len {w : World} {v : Option Nat} {m : Nat} {F : List UInt8 → Option (Option (List ByteArray))} (h : HdrAt w v m F) {t : TypeId} (ht : Try.prog.underlying t = some (.map 9 24)) (ty : TypeId) : (Builtin.len_ #[t] ty #[.map v]).run Try.prog w = .ok (.int .i64 m) w := by
  obtain ⟨f, h1, _⟩ := h
  exact h1.len ht ty

theorem BytesAt.kept {w w' : World} {p : Option Addr} {n c : Nat} (h : BytesAt w p n c) (hc : ∀ a v, w.cell? a = some v → w'.cell? a = some v) : BytesAt w' p n c := by
  cases p with
  | none => exact h
  | some a =>
    intro i hi
    obtain ⟨z, hz⟩ := h i hi
    exact ⟨z, hc _ _ hz⟩

/-- The keys of the narrowed contents are there. -/
theorem restr_hit (F : List UInt8 → Option (Option (List ByteArray))) (ks : List ByteArray) (a : Nat) (ha : a < ks.length) : restr F ks (ks.getD a ByteArray.empty).data.toList = F (ks.getD a ByteArray.empty).data.toList := by
  unfold restr
  rw [if_pos]
  exact List.mem_map.2 ⟨ks.getD a ByteArray.empty, by rw [List.getD, List.getElem?_eq_getElem ha]; exact List.getElem_mem ha, rfl⟩


theorem HdrAt.drewN {w : World} {v : Option Nat} {m : Nat} {F : List UInt8 → Option (Option (List ByteArray))} (h : HdrAt w v m F) (q : Nat) : HdrAt (w.drewN q) v m F := h.below (below_drewN (Below.refl _ _) q)

theorem HdrAt.look {w : World} {v : Option Nat} {m : Nat} {F : List UInt8 → Option (Option (List ByteArray))} (h : HdrAt w v m F) {t : TypeId} (ht : Try.prog.underlying t = some (.map 9 24)) {s : ByteArray} (hs : s.size ≤ maxLen) :
    ∃ p n c, (Instr.lookup t (.map v) (.string s) false).run Try.prog w = .ok (.slice p n c) w ∧ SliceIs w p n c (lookF F s) := by
  obtain ⟨f, h1, h2⟩ := h
  obtain ⟨p, n, c, hrun, hat⟩ := h1.look ht hs
  exact ⟨p, n, c, hrun, hdr_look h2 s hat⟩

theorem HdrAt.look_ok {w : World} {v : Option Nat} {m : Nat} {F : List UInt8 → Option (Option (List ByteArray))} (h : HdrAt w v m F) {t : TypeId} (ht : Try.prog.underlying t = some (.map 9 24)) {s : ByteArray} (hs : s.size ≤ maxLen) :
    ∃ p n c, (Instr.lookup t (.map v) (.string s) true).run Try.prog w = .ok (.tuple #[.slice p n c, .bool (F s.data.toList).isSome]) w ∧ SliceIs w p n c (lookF F s) := by
  obtain ⟨f, h1, h2⟩ := h
  obtain ⟨p, n, c, hrun, hat⟩ := h1.look_ok ht hs
  rw [hdr_isSome h2] at hrun
  exact ⟨p, n, c, hrun, hdr_look h2 s hat⟩

theorem HdrAt.has {w : World} {v : Option Nat} {m : Nat} {F : List UInt8 → Option (Option (List ByteArray))} (h : HdrAt w v m F) (s : ByteArray) (hs : s.size ≤ maxLen) :
    Calls Try.prog 15 #[.map v, .string s] w fun e w' => e = .returned (.bool (F s.data.toList).isSome) ∧ w' = w := by
  obtain ⟨f, h1, h2⟩ := h
  have := hasKey_any v m f s w h1 hs
  rw [hdr_isSome h2] at this
  exact this

theorem SliceIs.drewN {w : World} {p : Option Addr} {n c : Nat} {x : Option (List ByteArray)} (h : SliceIs w p n c x) (q : Nat) : SliceIs (w.drewN q) p n c x := h.kept (fun _ _ h => h)

theorem SliceIs.below {w w' : World} {p : Option Addr} {n c : Nat} {x : Option (List ByteArray)} (h : SliceIs w p n c x) (hb : Below w.heap.size w w') : SliceIs w' p n c x := h.kept (cells_below hb)

theorem below_from {w w1 w2 : World} (h1 : Below w.heap.size w w1) (h2 : Below w1.heap.size w1 w2) : Below w.heap.size w w2 := h1.trans (h2.mono h1.size)

end Go.Proofs.Qxb6602802a
