namespace Go.Proofs.Qxb6001736a
set_option linter.unusedVariables false

def isSep (c : Int) : Bool := c == 32 || c == 9 || c == 13 || c == 10 || c == 44 || c == 58
def isNum (c : Int) : Bool := c == 43 || c == 45 || c == 46 || (decide (48 ≤ c) && decide (c ≤ 57)) || c == 69 || c == 101
theorem isSep_cases (c : Int) (h : isSep c = true) : c = 32 ∨ c = 9 ∨ c = 13 ∨ c = 10 ∨ c = 44 ∨ c = 58 := by simp [isSep] at h; omega
theorem isSep_not (c : Int) (h : isSep c = false) : (c == 32) = false ∧ (c == 9) = false ∧ (c == 13) = false ∧ (c == 10) = false ∧ (c == 44) = false ∧ (c == 58) = false := by
  simp [isSep] at h; simp; omega
theorem isNum_cases (c : Int) (h : isNum c = true) : c = 43 ∨ c = 45 ∨ c = 46 ∨ (48 ≤ c ∧ c ≤ 57) ∨ c = 69 ∨ c = 101 := by simp [isNum] at h; omega
theorem isNum_sep (c : Int) (h : isNum c = true) : isSep c = false := by
  have := isNum_cases c h
  simp [isSep]; omega
theorem isSep_num (c : Int) (h : isSep c = true) : isNum c = false := by
  cases hn : isNum c with
  | false => rfl
  | true => rw [isNum_sep c hn] at h; exact absurd h (by simp)

/-- Where the string that is open at j ends: behind its quote. -/
def strEnd (D : Nat → Int) : Nat → Nat → Option Nat
  | 0, _ => none
  | f + 1, j => if D j = 34 then some (j + 1) else if D j = 92 then strEnd D f (j + 2) else strEnd D f (j + 1)

theorem strEnd_lt (D : Nat → Int) : ∀ f j e, strEnd D f j = some e → j < e := by
  intro f
  induction f with
  | zero => intro j e h; simp [strEnd] at h
  | succ f ih =>
    intro j e h
    rw [strEnd] at h
    split at h
    · simp at h; omega
    · split at h
      · have := ih _ _ h; omega
      · have := ih _ _ h; omega

/-- A token's own bytes, from s to e, of kind k. -/
def Shape (D : Nat → Int) (s e : Nat) (k : Int) : Prop :=
  ((k = 123 ∨ k = 125 ∨ k = 91 ∨ k = 93) ∧ D s = k ∧ e = s + 1) ∨
  (k = 34 ∧ D s = 34 ∧ ∃ f, strEnd D f (s + 1) = some e) ∨
  ((k = 116 ∨ k = 110) ∧ D s = k ∧ e = s + 4) ∨
  (k = 102 ∧ D s = 102 ∧ e = s + 5) ∨
  (k = 48 ∧ s < e ∧ ∀ j, s ≤ j → j < e → isNum (D j) = true)

theorem Shape.lt {D : Nat → Int} {s e : Nat} {k : Int} (h : Shape D s e k) : s < e := by
  rcases h with ⟨_, _, h⟩ | ⟨_, _, f, h⟩ | ⟨_, _, h⟩ | ⟨_, _, h⟩ | ⟨_, h, _⟩
  · omega
  · have := strEnd_lt D f _ _ h; omega
  · omega
  · omega
  · exact h

theorem Shape.notSep {D : Nat → Int} {s e : Nat} {k : Int} (h : Shape D s e k) : isSep (D s) = false := by
  rcases h with ⟨h1, h2, _⟩ | ⟨_, h2, _⟩ | ⟨h1, h2, _⟩ | ⟨_, h2, _⟩ | ⟨_, h1, h2⟩
  · rw [h2]; rcases h1 with rfl | rfl | rfl | rfl <;> decide
  · rw [h2]; decide
  · rw [h2]; rcases h1 with rfl | rfl <;> decide
  · rw [h2]; decide
  · exact isNum_sep _ (h2 s (Nat.le_refl _) h1)

theorem strEnd_congr {D D' : Nat → Int} : ∀ f j e, strEnd D f j = some e → (∀ i, i < e → D i = D' i) → strEnd D' f j = some e := by
  intro f
  induction f with
  | zero => intro j e h; simp [strEnd] at h
  | succ f ih =>
    intro j e h hd
    have hj := strEnd_lt D _ _ _ h
    rw [strEnd] at h ⊢
    rw [← hd j hj]
    split at h
    · rename_i h1; rw [if_pos h1]; exact h
    · rename_i h1; rw [if_neg h1]
      split at h
      · rename_i h2; rw [if_pos h2]; exact ih _ _ h hd
      · rename_i h2; rw [if_neg h2]; exact ih _ _ h hd

theorem Shape.congr {D D' : Nat → Int} {s e : Nat} {k : Int} (h : Shape D s e k) (hd : ∀ i, i < e → D i = D' i) : Shape D' s e k := by
  have hs := hd s h.lt
  rcases h with ⟨h1, h2, h3⟩ | ⟨h1, h2, f, h3⟩ | ⟨h1, h2, h3⟩ | ⟨h1, h2, h3⟩ | ⟨h1, h2, h3⟩
  · exact .inl ⟨h1, by rw [← hs]; exact h2, h3⟩
  · exact .inr (.inl ⟨h1, by rw [← hs]; exact h2, f, strEnd_congr f _ _ h3 hd⟩)
  · exact .inr (.inr (.inl ⟨h1, by rw [← hs]; exact h2, h3⟩))
  · exact .inr (.inr (.inr (.inl ⟨h1, by rw [← hs]; exact h2, h3⟩)))
  · exact .inr (.inr (.inr (.inr ⟨h1, h2, fun j a b => by rw [← hd j b]; exact h3 j a b⟩)))
end Go.Proofs.Qxb6001736a
