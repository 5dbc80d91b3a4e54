import Derived.Test.Qxb6001224aAny
import Derived.Lib.Strings
namespace Go.Proofs.Qxb6001224a
open Go.RowKit Go.ChangeShapes
set_option linter.unusedVariables false
set_option linter.unusedSimpArgs false

/-- The line ends in t[a:b]. -/
def nl (t : ByteArray) (a b : Nat) : Nat := Lib.countByte (t.extract a b).data.toList 10

theorem ext_list (t : ByteArray) (a b : Nat) : (t.extract a b).data.toList = (t.data.toList.take b).drop a := by
  rw [ByteArray.data_extract, Array.toList_extract]
  rw [List.extract_eq_take_drop, List.drop_take]

theorem nl_le (t : ByteArray) (a b : Nat) : nl t a b ≤ b - a := by
  unfold nl Lib.countByte
  refine Nat.le_trans List.count_le_length ?_
  rw [ext_list]
  simp
  omega

theorem take_parts (l : List UInt8) (a b c : Nat) (h1 : a ≤ b) (h2 : b ≤ c) : (l.take c).drop a = (l.take b).drop a ++ (l.take c).drop b := by
  have e1 : List.take c l = List.take b (List.take c l) ++ List.drop b (List.take c l) := (List.take_append_drop b _).symm
  rw [List.take_take, Nat.min_eq_left h2] at e1
  by_cases hb : b ≤ l.length
  · conv => lhs; rw [e1]
    rw [List.drop_append_of_le_length (by simp; omega)]
  · have e2 : List.drop b (List.take c l) = [] := List.drop_of_length_le (by simp; omega)
    rw [e2, List.append_nil, List.take_of_length_le (by omega), List.take_of_length_le (by omega)]

theorem nl_add (t : ByteArray) (a b c : Nat) (h1 : a ≤ b) (h2 : b ≤ c) : nl t a c = nl t a b + nl t b c := by
  unfold nl Lib.countByte
  rw [ext_list, ext_list, ext_list, ← List.count_append, take_parts _ a b c h1 h2]

theorem nl_zero (t : ByteArray) (a : Nat) : nl t a a = 0 := by have := nl_le t a a; omega

def pieceCells (t : ByteArray) (p : Nat → Nat) (j : Nat) : List Value := [.string (t.extract (p j) (p (j + 1))), .int .i64 (nl t 0 (p j)), .int .i64 (nl t (p j) (p (j + 1)))]
def cellsOf (t : ByteArray) (p : Nat → Nat) : Nat → List Value
  | 0 => []
  | k + 1 => cellsOf t p k ++ pieceCells t p k

theorem cellsOf_length (t : ByteArray) (p : Nat → Nat) (k : Nat) : (cellsOf t p k).length = k * 3 := by
  induction k with
  | zero => rfl
  | succ k ih => simp [cellsOf, pieceCells, ih]; omega

theorem cellsOf_congr (t : ByteArray) (p p' : Nat → Nat) (k : Nat) (h : ∀ j, j ≤ k → p j = p' j) : cellsOf t p k = cellsOf t p' k := by
  induction k with
  | zero => rfl
  | succ k ih =>
    rw [cellsOf, cellsOf, ih (fun j hj => h j (by omega))]
    simp [pieceCells, h k (by omega), h (k + 1) (by omega)]

theorem cellsOf_at (t : ByteArray) (p : Nat → Nat) (k j i : Nat) (hj : j < k) (hi : i < 3) : (cellsOf t p k)[j * 3 + i]? = (pieceCells t p j)[i]? := by
  induction k with
  | zero => omega
  | succ k ih =>
    rw [cellsOf]
    by_cases h : j < k
    · rw [List.getElem?_append_left (by rw [cellsOf_length]; omega)]
      exact ih h
    · have e : j = k := by omega
      subst e
      rw [List.getElem?_append_right (by rw [cellsOf_length]; omega), cellsOf_length]
      congr 1
      omega

/-- The cuts so far: k pieces, each of at least g bytes and of at least one. -/
structure Cuts (len g : Nat) (p : Nat → Nat) (k : Nat) : Prop where
  zero : p 0 = 0
  gap : ∀ j, j < k → p j + g ≤ p (j + 1) ∧ p j + 1 ≤ p (j + 1)
  le : p k ≤ len

theorem Cuts.mono {len g : Nat} {p : Nat → Nat} {k : Nat} (h : Cuts len g p k) : ∀ j, j ≤ k → p j ≤ p k ∧ j ≤ p j := by
  intro j hj
  have h1 : ∀ i, i ≤ k → i ≤ p i := by
    intro i
    induction i with
    | zero => intro _; omega
    | succ i ih => intro hi; have := ih (by omega); have := h.gap i (by omega); omega
  have h2 : ∀ d j, j + d = k → p j ≤ p k := by
    intro d
    induction d with
    | zero => intro j hj; have : j = k := by omega
              rw [this]; exact Nat.le_refl _
    | succ d ih => intro j hj; have := ih (j + 1) (by omega); have := h.gap j (by omega); omega
  exact ⟨h2 (k - j) j (by omega), h1 j hj⟩

/-- One cut more. -/
def withCut (p : Nat → Nat) (k e : Nat) : Nat → Nat := fun j => if j ≤ k then p j else e
theorem withCut_le (p : Nat → Nat) (k e j : Nat) (h : j ≤ k) : withCut p k e j = p j := by simp [withCut, h]
theorem withCut_new (p : Nat → Nat) (k e : Nat) : withCut p k e (k + 1) = e := if_neg (by omega)

theorem Cuts.step {len g : Nat} {p : Nat → Nat} {k e : Nat} (h : Cuts len g p k) (h1 : p k + g ≤ e) (h2 : p k + 1 ≤ e) (h3 : e ≤ len) : Cuts len g (withCut p k e) (k + 1) := by
  refine ⟨by rw [withCut_le _ _ _ _ (by omega)]; exact h.zero, fun j hj => ?_, by rw [withCut_new]; exact h3⟩
  by_cases hk : j < k
  · rw [withCut_le _ _ _ _ (by omega), withCut_le _ _ _ _ (by omega)]
    exact h.gap j hk
  · have e : j = k := by omega
    subst e
    rw [withCut_le _ _ _ _ (by omega), withCut_new]
    exact ⟨h1, h2⟩

theorem cellsOf_step (t : ByteArray) (p : Nat → Nat) (k e : Nat) : cellsOf t p k ++ [.string (t.extract (p k) e), .int .i64 (nl t 0 (p k)), .int .i64 (nl t (p k) e)] = cellsOf t (withCut p k e) (k + 1) := by
  rw [cellsOf, cellsOf_congr t p (withCut p k e) k (fun j hj => (withCut_le _ _ _ _ hj).symm)]
  simp only [pieceCells, withCut_new, withCut_le p k e k (Nat.le_refl _)]
end Go.Proofs.Qxb6001224a
