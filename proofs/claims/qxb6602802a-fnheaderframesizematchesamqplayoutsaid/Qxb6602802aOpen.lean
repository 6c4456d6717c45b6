/-
  THE ARGUMENTS OPENED: a []byte, a []string, a map[string][]string that came in, as the walks are told of them. Own work.
-/
import Derived.Test.Qxb6602802aIns
import Derived.SliceStrings
import Derived.OpenShut
import Derived.ShutString
import Derived.ChangeOld
namespace Go.Proofs.Qxb6602802a
open Go.RowKit Go.Maps Go.ChangeShapes Go.WideShapes
open Go.WideElems (Fit rd rg rg_of rd_key rd_val elemAt)

theorem laidOut : laidOutB Try.prog = true := by kernel_rfl
theorem own : ownKnob Try.prog.godebug = none := by kernel_rfl
theorem cells9 : Try.prog.cellsOf 9 = 1 := by kernel_rfl
theorem cells5 : Try.prog.cellsOf 5 = 1 := by kernel_rfl

section
variable {H : Type} {enc : TypeId × Value → H} {W : World} {sp : Nat → Bool} {held : Bool}

/-- The cells of a []string, as the walks are told. -/
theorem strs_cells {fuel : Nat} {v : Value} {y : DataW H × List MemPlace} (h : DataW.trod enc Try.prog W 0 sp held fuel 24 v.cells.toList = some y) (hv : ∀ cs, v ≠ .agg cs) : ∃ p n c x, v = .slice p n c ∧ SliceIs W p n c x := by
  have hc : v.cells = #[v] := by cases v <;> first | rfl | exact absurd rfl (hv _)
  rw [hc] at h
  rcases open_strings Try.underlying24 Try.underlying9 cells9 h with ⟨hcs, _⟩ | ⟨a, len, cap, ss, hcs, _, hl, hm, hz, _, hcell, hsz⟩
  · simp at hcs
    exact ⟨none, 0, 0, none, hcs, rfl, rfl⟩
  · simp at hcs
    have hlen : len ≤ ss.length := by rw [hz]; split <;> omega
    refine ⟨some a, len, cap, some (ss.take len), hcs, ?_, Nat.le_trans hl hm, fun s hs => hsz s (List.mem_of_mem_take hs), fun i hi => ?_⟩
    · rw [List.length_take]; omega
    · rw [hcell i (by omega)]
      simp [hi]

theorem open_strs_in {p : Option Addr} {n c : Nat} {d : DataW H} {ps : List MemPlace} (h : DataW.Trod enc Try.prog W 0 sp held 24 (.slice p n c) d ps) : ∃ x, SliceIs W p n c x := by
  obtain ⟨fuel, hf⟩ := h
  obtain ⟨p', n', c', x, e, hS⟩ := strs_cells (v := .slice p n c) hf (fun cs e => by cases e)
  cases e
  exact ⟨x, hS⟩

theorem open_bytes_in {p : Option Addr} {n c : Nat} {d : DataW H} {ps : List MemPlace} (h : DataW.Trod enc Try.prog W 0 sp held 22 (.slice p n c) d ps) : BytesAt W p n c ∧ n ≤ maxLen := by
  obtain ⟨fuel, hf⟩ := h
  rcases open_ints Try.underlying22 Try.underlying5 cells5 hf with ⟨hcs, _⟩ | ⟨x, l, cp, zs, hcs, _, hl, hm, hz, _, hcell, hwz⟩
  · simp [Value.cells] at hcs
    obtain ⟨rfl, rfl, rfl⟩ := hcs
    exact ⟨⟨rfl, rfl⟩, Nat.zero_le _⟩
  · simp [Value.cells] at hcs
    obtain ⟨rfl, rfl, rfl⟩ := hcs
    have hlen : n ≤ zs.length := by rw [hz]; split <;> omega
    exact ⟨fun i hi => ⟨_, hcell i (by omega)⟩, Nat.le_trans hl hm⟩

theorem formed_slice {v : Value} (h : v.formed Try.prog 24 = true) (cs : Array Value) : v ≠ .agg cs := by
  intro e
  subst e
  simp [Value.formed, Try.underlying24] at h

/-- A map[string][]string that came in. -/
theorem open_hdr_in {v : Option Nat} {d : DataW H} {ps : List MemPlace} (h : DataW.Trod enc Try.prog W 0 sp held 23 (.map v) d ps) : ∃ m F, HdrAt W v m F ∧ m ≤ maxLen := by
  obtain ⟨fuel, hf⟩ := h
  rcases WideElems.open_map Try.underlying23 hf with ⟨hcs, _⟩ | ⟨b, es, clock, n, _, hcs, hb, _, Ft, _⟩
  · simp [Value.cells] at hcs
    subst hcs
    exact ⟨0, fun _ => none, ⟨fun _ => none, ⟨rfl, rfl⟩, fun s => Or.inl ⟨rfl, rfl⟩⟩, Nat.zero_le _⟩
  · simp [Value.cells] at hcs
    subst hcs
    have each : ∀ x ∈ es.toList, ∃ p n c y, x.val = .slice p n c ∧ SliceIs W p n c y := by
      intro x hx
      obtain ⟨y, hy⟩ := Ft.reads x hx
      obtain ⟨z, hz, _⟩ := rd_val hy
      unfold elemAt at hz
      split at hz
      · rename_i hform
        exact strs_cells hz (formed_slice hform)
      · cases hz
    have hrd : ∀ x ∈ es.toList, ∃ kl, keyOf Try.prog 9 x.key = some kl ∧ rd Try.prog 9 svE x = some (kl, .held x.val) := by
      intro x hx
      obtain ⟨kl, hkl⟩ := Ft.keys x hx
      obtain ⟨p, n, c, y, hv, _⟩ := each x hx
      refine ⟨kl, hkl, ?_⟩
      simp [rd, hkl, hv, svE_mk]
    have F1 : Fit Try.prog 9 svE es clock := ⟨Ft.size, Ft.stamped, fun x hx => by obtain ⟨kl, _, h2⟩ := hrd x hx; exact ⟨_, h2⟩⟩
    have hown : W.ownsMap Try.prog 9 svE b es.size (.map ((es.toList.map (rg Try.prog 9 svE)).foldr DataW.insert [])) := ⟨es, clock, hb, F1, Nat.le_refl _, rfl⟩
    have hat := MapAt.of_owns hown
    obtain ⟨ent, he, hap, hkl⟩ := hown.entries law9
    have hmem : ∀ pr, pr ∈ ent → ∃ x ∈ es.toList, rg Try.prog 9 svE x = pr := by
      intro pr hpr
      cases he
      obtain ⟨x, hx, e⟩ := List.mem_map.1 (mem_sorted.1 hpr)
      exact ⟨x, hx, e⟩
    generalize (DataW.map ((es.toList.map (rg Try.prog 9 svE)).foldr DataW.insert [])) = D at *
    subst he
    have hsz : Maps.size (DataW.map ent) ≤ maxLen := Nat.le_trans hown.size_le F1.size
    have hex : ∀ s : List UInt8, ∃ y : Option (Option (List ByteArray)), (y = none ∧ view (DataW.map ent) s = none) ∨ ∃ x p n c, y = some x ∧ view (DataW.map ent) s = some (.slice p n c) ∧ SliceIs W p n c x := by
      intro s
      unfold view
      cases hh : has (DataW.map ent) (.string s)
      · exact ⟨none, Or.inl ⟨rfl, rfl⟩⟩
      · rw [has_eq] at hh
        obtain ⟨pr, hpr, hsame⟩ := List.any_eq_true.1 hh
        have e1 : pr.1 = .string s := WideAt.sameKey_eq hsame
        obtain ⟨x, hx, hrg⟩ := hmem pr hpr
        obtain ⟨kl, hk, hr⟩ := hrd x hx
        obtain ⟨p, n, c, y, hv, hS⟩ := each x hx
        rw [rg_of hr] at hrg
        have e2 : (DataW.map ent).atKey (.string s) nilD = .held x.val := WideAt.atKey_mem nilD (k := .string s) trivial hap (by
          have : pr = (.string s, .held x.val) := by rw [← hrg] at e1 ⊢; simp at e1 ⊢; exact e1
          rw [← this]; exact hpr)
        refine ⟨some y, Or.inr ⟨y, p, n, c, rfl, ?_, hS⟩⟩
        rw [if_pos rfl, e2, hv]
        rfl
    obtain ⟨F, hF⟩ := Classical.skolem.1 hex
    exact ⟨_, F, ⟨_, hat, hF⟩, hsz⟩

end

end Go.Proofs.Qxb6602802a
