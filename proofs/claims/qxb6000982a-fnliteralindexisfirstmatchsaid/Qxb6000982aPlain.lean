namespace Go.Proofs.Qxb6000982a
set_option linter.unusedVariables false

/-- Lower case of an ASCII letter. -/
def low (c : Int) : Int := if 65 ≤ c ∧ c ≤ 90 then c + 32 else c
/-- The byte of s as it is compared. -/
def eff (fold : Bool) (c : Int) : Int := if fold = true then low c else c
theorem eff_false (c : Int) : eff false c = c := rfl
theorem eff_true (c : Int) : eff true c = low c := rfl

def Match (T : Nat → Int) (n : Nat) (fold : Bool) (S : Nat → Int) (i : Nat) : Prop := ∀ j, j < n → eff fold (S (i + j)) = T j

/-- r is where the text stands first in the m bytes S, or -1. -/
def First (T : Nat → Int) (n : Nat) (fold : Bool) (S : Nat → Int) (m : Nat) (r : Int) : Prop :=
  (r = -1 ∧ ∀ i, i + n ≤ m → ¬ Match T n fold S i) ∨ ∃ i : Nat, r = i ∧ i + n ≤ m ∧ Match T n fold S i ∧ ∀ i', i' < i → ¬ Match T n fold S i'

theorem First.unique {T : Nat → Int} {n : Nat} {fold : Bool} {S : Nat → Int} {m : Nat} {r q : Int} (h : First T n fold S m r) (k : First T n fold S m q) : r = q := by
  rcases h with ⟨rfl, h⟩ | ⟨i, rfl, hi, hm, hf⟩
  · rcases k with ⟨rfl, _⟩ | ⟨j, rfl, hj, km, _⟩
    · rfl
    · exact absurd km (h j hj)
  · rcases k with ⟨rfl, k⟩ | ⟨j, rfl, hj, km, kf⟩
    · exact absurd hm (k i hi)
    · have h1 : ¬ i < j := fun hlt => kf i hlt hm
      have h2 : ¬ j < i := fun hlt => hf j hlt km
      have : i = j := by omega
      rw [this]

/-- Where the anchor byte (or its upper case) does not stand at i + anchor there is no match at i. -/
theorem no_match {T : Nat → Int} {n : Nat} {fold : Bool} {S : Nat → Int} {i a : Nat} (ha : a < n) (hup : fold = true → ¬ (65 ≤ T a ∧ T a ≤ 90))
    (other : Int) (ho : other = if fold = true ∧ 97 ≤ T a ∧ T a ≤ 122 then T a - 32 else T a) (h1 : S (i + a) ≠ T a) (h2 : S (i + a) ≠ other) : ¬ Match T n fold S i := by
  intro hm
  have h := hm a ha
  cases fold with
  | false => exact h1 h
  | true =>
    have hu := hup rfl
    rw [eff_true, low] at h
    simp only [true_and] at ho
    split at h <;> split at ho <;> omega

end Go.Proofs.Qxb6000982a
