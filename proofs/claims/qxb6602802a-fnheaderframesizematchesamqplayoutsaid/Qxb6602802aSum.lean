/-
  PLAIN LAWS: the size of one field, sums over a list of keys in whatever order they come. Own work.
-/
import Derived.Test.Qxb6602802aExactK
namespace Go.Proofs.Qxb6602802a
open Go.RowKit Go.Maps

/-- The size of one entry of the table. -/
def fs (s : ByteArray) (l : List ByteArray) : Int := 6 + (s.size : Int) + (if l.length = 1 then 0 else 5 * (l.length : Int)) + bs l

theorem fs_one (s : ByteArray) (l : List ByteArray) (h : l.length = 1) : fs s l = 6 + (s.size : Int) + ((l.getD 0 ByteArray.empty).size : Int) := by
  match l, h with
  | [a], _ => simp [fs, bs]

theorem fs_other (s : ByteArray) (l : List ByteArray) (h : l.length ≠ 1) : fs s l = 6 + (s.size : Int) + 5 * (l.length : Int) + bs l := by
  simp [fs, h]

theorem fs_bounds (s : ByteArray) (l : List ByteArray) : 6 ≤ fs s l ∧ (s.size : Int) ≤ fs s l ∧ (l.length : Int) ≤ fs s l ∧ bs l ≤ fs s l := by
  have h := bs_nonneg l
  unfold fs
  split <;> omega

theorem fs_le (F : List UInt8 → Option (Option (List ByteArray))) (s : ByteArray) : fs s ((lookF F s).getD []) ≤ 32 + 2 * (s.size : Int) + vb1 F s := by
  have h := bs_nonneg ((lookF F s).getD [])
  unfold fs vb1
  split <;> omega

/-- The sum of g over the keys that p lets by. -/
def sumIf (p : ByteArray → Bool) (g : ByteArray → Int) (L : List ByteArray) : Int := (L.map fun t => if p t then g t else 0).sum

theorem sumIf_nonneg (p : ByteArray → Bool) (g : ByteArray → Int) (hg : ∀ t, 0 ≤ g t) (L : List ByteArray) : 0 ≤ sumIf p g L := by
  induction L with
  | nil => simp [sumIf]
  | cons t L ih =>
    have := hg t
    simp only [sumIf, List.map_cons, List.sum_cons] at *
    split <;> omega

theorem sumIf_le (p : ByteArray → Bool) (g : ByteArray → Int) (hg : ∀ t, 0 ≤ g t) (L : List ByteArray) : sumIf p g L ≤ (L.map g).sum := by
  induction L with
  | nil => simp [sumIf]
  | cons t L ih =>
    have := hg t
    simp only [sumIf, List.map_cons, List.sum_cons] at *
    split <;> omega

theorem sumIf_none (p : ByteArray → Bool) (g : ByteArray → Int) (L : List ByteArray) (h : ∀ t ∈ L, p t = false) : sumIf p g L = 0 := by
  induction L with
  | nil => rfl
  | cons t L ih =>
    have h1 := h t (by simp)
    have h2 := ih (fun u hu => h u (by simp [hu]))
    simp only [sumIf, List.map_cons, List.sum_cons] at *
    rw [h1, h2]
    simp

theorem sumIf_all (p : ByteArray → Bool) (g : ByteArray → Int) (L : List ByteArray) (h : ∀ t ∈ L, p t = true) : sumIf p g L = (L.map g).sum := by
  induction L with
  | nil => rfl
  | cons t L ih =>
    have h1 := h t (by simp)
    have h2 := ih (fun u hu => h u (by simp [hu]))
    simp only [sumIf, List.map_cons, List.sum_cons] at *
    rw [h1, h2]
    simp

theorem sumIf_congr (p p' : ByteArray → Bool) (g : ByteArray → Int) (L : List ByteArray) (h : ∀ t ∈ L, p t = p' t) : sumIf p g L = sumIf p' g L := by
  unfold sumIf
  rw [List.map_congr_left (fun t ht => by rw [h t ht])]

/-- One key more is let by. -/
theorem sumIf_step (p p' : ByteArray → Bool) (g : ByteArray → Int) (s : ByteArray) : ∀ (L : List ByteArray), L.Nodup → s ∈ L → p s = false → p' s = true → (∀ t ∈ L, t ≠ s → p' t = p t) → sumIf p' g L = sumIf p g L + g s
  | [], _, hs, _, _, _ => by simp at hs
  | t :: L, hn, hs, h0, h1, h => by
    obtain ⟨hn1, hn2⟩ := List.nodup_cons.1 hn
    by_cases e : t = s
    · subst e
      have e2 : sumIf p' g L = sumIf p g L := sumIf_congr p' p g L (fun u hu => h u (by simp [hu]) (fun e => hn1 (e ▸ hu)))
      simp only [sumIf, List.map_cons, List.sum_cons] at *
      rw [h0, h1, e2]
      simp
      omega
    · have hs' : s ∈ L := by
        rcases List.mem_cons.1 hs with h | h
        · exact absurd h.symm e
        · exact h
      have e2 := sumIf_step p p' g s L hn2 hs' h0 h1 (fun u hu hne => h u (by simp [hu]) hne)
      have e3 := h t (by simp) e
      simp only [sumIf, List.map_cons, List.sum_cons] at *
      rw [e3, e2]
      omega

theorem mem_sum_le (g : ByteArray → Int) (hg : ∀ t, 0 ≤ g t) : ∀ (L : List ByteArray) (s : ByteArray), s ∈ L → g s ≤ (L.map g).sum
  | [], s, hs => by simp at hs
  | t :: L, s, hs => by
    have hL : 0 ≤ (L.map g).sum := by
      have := sumIf_nonneg (fun _ => true) g hg L
      rw [sumIf_all (fun _ => true) g L (fun _ _ => rfl)] at this
      exact this
    have ht := hg t
    simp only [List.map_cons, List.sum_cons]
    rcases List.mem_cons.1 hs with e | h
    · subst e; omega
    · have := mem_sum_le g hg L s h; omega

theorem nodup_of_apart (ks : List ByteArray) (h : ∀ a b, a < b → b < ks.length → ks.getD a ByteArray.empty ≠ ks.getD b ByteArray.empty) : ks.Nodup := by
  unfold List.Nodup
  rw [List.pairwise_iff_getElem]
  intro i j hi hj hij
  have := h i j hij hj
  rw [List.getD, List.getD, List.getElem?_eq_getElem hi, List.getElem?_eq_getElem hj] at this
  exact this

end Go.Proofs.Qxb6602802a
