import Derived.Test.Qxb6001736aPlain
namespace Go.Proofs.Qxb6001736a
set_option linter.unusedVariables false
set_option linter.unusedSimpArgs false

/-- The bytes of a string's content, quotes and backslashes escaped. -/
def esc : List Int → List Int
  | [] => []
  | c :: l => if c = 34 ∨ c = 92 then 92 :: c :: esc l else c :: esc l
theorem esc_append (a b : List Int) : esc (a ++ b) = esc a ++ esc b := by
  induction a with
  | nil => rfl
  | cons c l ih => simp only [List.cons_append, esc]; split <;> simp [ih]
theorem esc_length (l : List Int) : (esc l).length ≤ 2 * l.length := by
  induction l with
  | nil => simp [esc]
  | cons c l ih => simp only [esc]; split <;> simp <;> omega

/-- What a token writes. -/
def TokB (news : List Int) (k : Int) : Prop :=
  ((k = 123 ∨ k = 125 ∨ k = 91 ∨ k = 93) ∧ news = [k]) ∨
  (k = 34 ∧ ∃ content, news = 34 :: (esc content ++ [34])) ∨
  ((k = 116 ∨ k = 110) ∧ news.length = 4 ∧ news.head? = some k) ∨
  (k = 102 ∧ news.length = 5 ∧ news.head? = some 102) ∨
  (k = 48 ∧ 1 ≤ news.length ∧ ∀ c ∈ news, isNum c = true)

def byteAt (L : List Int) (j : Nat) : Int := L.getD j 0
theorem byteAt_left (a b : List Int) (j : Nat) (h : j < a.length) : byteAt (a ++ b) j = byteAt a j := by
  simp [byteAt, List.getD, List.getElem?_append_left h]
theorem byteAt_right (a b : List Int) (j : Nat) : byteAt (a ++ b) (a.length + j) = byteAt b j := by
  simp [byteAt, List.getD, List.getElem?_append_right]
theorem byteAt_mem (L : List Int) (j : Nat) (h : j < L.length) : byteAt L j ∈ L := by
  simp [byteAt, List.getD, h]

theorem strEnd_esc (content rest : List Int) : ∀ pre : List Int, ∃ f, strEnd (byteAt (pre ++ (esc content ++ 34 :: rest))) f pre.length = some (pre.length + (esc content).length + 1) := by
  induction content with
  | nil =>
    intro pre
    refine ⟨1, ?_⟩
    have h : byteAt (pre ++ (esc [] ++ 34 :: rest)) pre.length = 34 := by
      have := byteAt_right pre (esc [] ++ 34 :: rest) 0
      rw [Nat.add_zero] at this
      rw [this]; rfl
    rw [strEnd, if_pos h]
    rfl
  | cons c l ih =>
    intro pre
    by_cases hc : c = 34 ∨ c = 92
    · have e : esc (c :: l) = 92 :: c :: esc l := by simp only [esc]; rw [if_pos hc]
      rw [e]
      obtain ⟨f, hf⟩ := ih (pre ++ [92, c])
      refine ⟨f + 1, ?_⟩
      have e2 : pre ++ (92 :: c :: esc l ++ 34 :: rest) = (pre ++ [92, c]) ++ (esc l ++ 34 :: rest) := by simp
      have h : byteAt (pre ++ (92 :: c :: esc l ++ 34 :: rest)) pre.length = 92 := by
        have := byteAt_right pre (92 :: c :: esc l ++ 34 :: rest) 0
        rw [Nat.add_zero] at this
        rw [this]; rfl
      rw [strEnd, h, if_neg (by decide), if_pos rfl, e2]
      have e3 : (pre ++ [92, c]).length = pre.length + 2 := by simp
      rw [e3] at hf
      rw [hf]
      simp
      omega
    · have e : esc (c :: l) = c :: esc l := by simp only [esc]; rw [if_neg hc]
      rw [e]
      obtain ⟨f, hf⟩ := ih (pre ++ [c])
      refine ⟨f + 1, ?_⟩
      have e2 : pre ++ (c :: esc l ++ 34 :: rest) = (pre ++ [c]) ++ (esc l ++ 34 :: rest) := by simp
      have h : byteAt (pre ++ (c :: esc l ++ 34 :: rest)) pre.length = c := by
        have := byteAt_right pre (c :: esc l ++ 34 :: rest) 0
        rw [Nat.add_zero] at this
        rw [this]; rfl
      rw [strEnd, h, if_neg (by omega), if_neg (by omega), e2]
      have e3 : (pre ++ [c]).length = pre.length + 1 := by simp
      rw [e3] at hf
      rw [hf]
      simp
      omega

theorem tok_shape {news : List Int} {k : Int} (h : TokB news k) (pre : List Int) : Shape (byteAt (pre ++ news)) pre.length (pre ++ news).length k := by
  have hz : byteAt (pre ++ news) pre.length = byteAt news 0 := by
    have := byteAt_right pre news 0
    rwa [Nat.add_zero] at this
  rcases h with ⟨hk, rfl⟩ | ⟨rfl, content, rfl⟩ | ⟨hk, hl, hh⟩ | ⟨rfl, hl, hh⟩ | ⟨rfl, hl, hall⟩
  · exact .inl ⟨hk, by rw [hz]; rfl, by simp⟩
  · obtain ⟨f, hf⟩ := strEnd_esc content [] (pre ++ [34])
    have e : pre ++ [34] ++ (esc content ++ [34]) = pre ++ 34 :: (esc content ++ [34]) := by simp
    rw [e] at hf
    refine .inr (.inl ⟨rfl, by rw [hz]; rfl, f, ?_⟩)
    have e2 : (pre ++ [34]).length = pre.length + 1 := by simp
    rw [e2] at hf
    rw [hf]
    simp
    omega
  · have hd : byteAt news 0 = k := by
      cases news with
      | nil => simp at hh
      | cons a l => simp at hh; subst hh; rfl
    exact .inr (.inr (.inl ⟨hk, by rw [hz, hd], by rw [List.length_append, hl]⟩))
  · have hd : byteAt news 0 = 102 := by
      cases news with
      | nil => simp at hh
      | cons a l => simp at hh; subst hh; rfl
    exact .inr (.inr (.inr (.inl ⟨rfl, by rw [hz, hd], by rw [List.length_append, hl]⟩)))
  · refine .inr (.inr (.inr (.inr ⟨rfl, by rw [List.length_append]; omega, fun j h1 h2 => ?_⟩)))
    rw [List.length_append] at h2
    have := byteAt_right pre news (j - pre.length)
    rw [show pre.length + (j - pre.length) = j by omega] at this
    rw [this]
    exact hall _ (byteAt_mem _ _ (by omega))

/-- The tokens written so far: i of them; E: their ends. -/
structure Toks (L : List Int) (i : Nat) (E : Nat → Nat) (K : Nat → Int) : Prop where
  zero : E 0 = 0
  last : E i = L.length
  inc : ∀ j, j < i → E j + 1 < E (j + 1)
  sep : ∀ j, j < i → isSep (byteAt L (E j)) = true
  shape : ∀ j, j < i → Shape (byteAt L) (E j + 1) (E (j + 1)) (K j)
  bytes : ∀ c ∈ L, 0 ≤ c ∧ c ≤ 255

theorem Toks.start (E0 : Nat → Nat) (h : E0 0 = 0) (K : Nat → Int) : Toks [] 0 E0 K := ⟨h, by simpa using h, fun j hj => by omega, fun j hj => by omega, fun j hj => by omega, fun c hc => by simp at hc⟩

theorem Toks.le {L : List Int} {i : Nat} {E : Nat → Nat} {K : Nat → Int} (h : Toks L i E K) : ∀ j, j ≤ i → E j ≤ L.length := by
  have : ∀ d j, j + d = i → E j ≤ E i := by
    intro d
    induction d with
    | zero => intro j hj; have : j = i := by omega
              rw [this]; exact Nat.le_refl _
    | succ d ih => intro j hj; have h1 := ih (j + 1) (by omega); have h2 := h.inc j (by omega); omega
  intro j hj
  rw [← h.last]
  exact this (i - j) j (by omega)

def withE (E : Nat → Nat) (i e : Nat) : Nat → Nat := fun j => if j ≤ i then E j else e
def withK (K : Nat → Int) (i : Nat) (k : Int) : Nat → Int := fun j => if j < i then K j else k
theorem withE_le (E : Nat → Nat) (i e j : Nat) (h : j ≤ i) : withE E i e j = E j := if_pos h
theorem withE_new (E : Nat → Nat) (i e : Nat) : withE E i e (i + 1) = e := if_neg (by omega)
theorem withK_lt (K : Nat → Int) (i j : Nat) (k : Int) (h : j < i) : withK K i k j = K j := if_pos h
theorem withK_new (K : Nat → Int) (i : Nat) (k : Int) : withK K i k i = k := if_neg (by omega)

theorem Shape.mono {L L' : List Int} {s e : Nat} {k : Int} (h : Shape (byteAt L) s e k) (he : e ≤ L.length) (hl : ∃ r, L' = L ++ r) : Shape (byteAt L') s e k := by
  obtain ⟨r, rfl⟩ := hl
  exact h.congr (fun i hi => (byteAt_left L r i (by omega)).symm)

/-- One token more. -/
theorem Toks.step {L : List Int} {i : Nat} {E : Nat → Nat} {K : Nat → Int} (h : Toks L i E K) {c k : Int} {news : List Int} (hc : isSep c = true) (hk : TokB news k) (hb : ∀ x ∈ news, 0 ≤ x ∧ x ≤ 255) :
    Toks (L ++ [c] ++ news) (i + 1) (withE E i (L ++ [c] ++ news).length) (withK K i k) := by
  have hlen : (L ++ [c]).length = L.length + 1 := by simp
  have hs := tok_shape hk (L ++ [c])
  have hlt := hs.lt
  rw [hlen] at hs hlt
  refine ⟨by rw [withE_le _ _ _ _ (Nat.zero_le _)]; exact h.zero, by rw [withE_new], fun j hj => ?_, fun j hj => ?_, fun j hj => ?_, fun x hx => ?_⟩
  · by_cases hji : j < i
    · rw [withE_le _ _ _ _ (by omega), withE_le _ _ _ _ (by omega)]; exact h.inc j hji
    · have e : j = i := by omega
      subst e
      rw [withE_le _ _ _ _ (Nat.le_refl _), withE_new, h.last]; exact hlt
  · by_cases hji : j < i
    · rw [withE_le _ _ _ _ (by omega), List.append_assoc, byteAt_left _ _ _ (by have := h.le (j + 1) (by omega); have := h.inc j hji; omega)]
      exact h.sep j hji
    · have e : j = i := by omega
      subst e
      rw [withE_le _ _ _ _ (Nat.le_refl _), h.last, List.append_assoc]
      have := byteAt_right L ([c] ++ news) 0
      rw [Nat.add_zero] at this
      rw [this]
      exact hc
  · by_cases hji : j < i
    · rw [withE_le _ _ _ _ (by omega), withE_le _ _ _ _ (by omega), withK_lt _ _ _ _ hji]
      exact (h.shape j hji).mono (h.le (j + 1) (by omega)) ⟨[c] ++ news, by simp⟩
    · have e : j = i := by omega
      subst e
      rw [withE_le _ _ _ _ (Nat.le_refl _), withE_new, withK_new, h.last]
      exact hs
  · rcases List.mem_append.1 hx with hx | hx
    · rcases List.mem_append.1 hx with hx | hx
      · exact h.bytes x hx
      · simp at hx; subst hx
        have := isSep_cases x hc
        omega
    · exact hb x hx
end Go.Proofs.Qxb6001736a
