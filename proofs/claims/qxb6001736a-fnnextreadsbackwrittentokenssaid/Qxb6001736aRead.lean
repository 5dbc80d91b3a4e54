import Derived.Test.Qxb6001736aZNext
import Derived.Test.Qxb6001736aClone
namespace Go.Proofs.Qxb6001736a
open Go.RowKit Go.ChangeShapes
set_option linter.unusedVariables false
set_option linter.unusedSimpArgs false

theorem own_inp {w : World} {base : Nat} {e : TypeId} {v : Value} {n : Nat} {xs : List Value} (h : w.ownsRow base e 1 v n xs) :
    ∃ ao b cap, v = .slice ao n cap ∧ n ≤ cap ∧ (0 < n → ao = some ⟨b, 0, none⟩) ∧ ∀ j, j < n → w.cell? ⟨b, j, none⟩ = xs[j]? := by
  have h0 := h
  rcases h.2 with ⟨rfl, rfl⟩ | ⟨g, cap, cur, rfl, _, _, hc, _⟩
  · exact ⟨none, 0, 0, rfl, Nat.le_refl _, fun h => absurd h (by omega), fun j hj => absurd hj (by omega)⟩
  · exact ⟨_, g, cap, rfl, hc, fun _ => rfl, fun j hj => h0.cellAt j (by omega)⟩

/-- The four rows behind the builder. -/
structure Laid (w : World) (n : Nat) (D : Nat → Int) (np : Nat) (E : Nat → Nat) (K : Nat → Int) (da : Option Addr) (db : Nat) (ka : Option Addr) (kb : Nat) (sa : Option Addr) (sb : Nat) (ea : Option Addr) (eb : Nat) : Prop where
  data : DataAt w db da n D
  kinds : Inp w kb ka np (fun j => .int .u8 (K j))
  starts : Inp w sb sa np (fun j => .int .i64 ((E j + 1 : Nat) : Int))
  ends : Inp w eb ea np (fun j => .int .i64 ((E (j + 1) : Nat) : Int))

theorem Laid.below {w w' : World} {n : Nat} {D : Nat → Int} {np : Nat} {E : Nat → Nat} {K : Nat → Int} {da ka sa ea : Option Addr} {db kb sb eb : Nat} (h : Laid w n D np E K da db ka kb sa sb ea eb) (hB : Below w.heap.size w w') : Laid w' n D np E K da db ka kb sa sb ea eb :=
  ⟨h.data.below hB, h.kinds.below hB, h.starts.below hB, h.ends.below hB⟩

theorem laid_of {w0 w : World} {d kv sv ev : Value} {L : List Int} {np : Nat} {E : Nat → Nat} {K : Nat → Int} (h : BInv w0 d L kv (kindsOf K np) sv (startsOf E np) ev (endsOf E np) w) :
    ∃ da db dc ka kb kc sa sb sc ea eb ec, d = .slice da L.length dc ∧ L.length ≤ dc ∧ kv = .slice ka np kc ∧ sv = .slice sa np sc ∧ ev = .slice ea np ec ∧ Hid (Laid w L.length (byteAt L) np E K da db ka kb sa sb ea eb) := by
  obtain ⟨da, db, dc, rfl, hdc, had, hdx⟩ := own_inp h.data.own
  have h2 := h.kinds.own
  have h3 := h.starts.own
  have h4 := h.ends.own
  rw [kinds_len] at h2
  rw [starts_len] at h3
  rw [ends_len] at h4
  obtain ⟨ka, kb, kc, rfl, hkc, hka, hkx⟩ := own_inp h2
  obtain ⟨sa, sb, sc, rfl, hsc, hsa, hsx⟩ := own_inp h3
  obtain ⟨ea, eb, ec, rfl, hec, hea, hex⟩ := own_inp h4
  refine ⟨da, db, dc, ka, kb, kc, sa, sb, sc, ea, eb, ec, rfl, hdc, rfl, rfl, rfl, ⟨had, fun j hj => ?_⟩, ⟨hka, fun j hj => ?_⟩, ⟨hsa, fun j hj => ?_⟩, ⟨hea, fun j hj => ?_⟩⟩
  · rw [hdx j hj]; simp [byteAt, List.getD, hj]
  · rw [hkx j hj]; simp [kindsOf, hj]
  · rw [hsx j hj]; simp [startsOf, hj]
  · rw [hex j hj]; simp [endsOf, hj]

/-- What is known of the token at which the reader stands. -/
theorem tok_at {L tail : List Int} {np i : Nat} {E : Nat → Nat} {K : Nat → Int} (h : Toks L np E K) (ht : tail = [] ∨ ∃ c, tail = [c] ∧ isSep c = true) (hi : i < np) :
    E i + 1 < E (i + 1) ∧ E (i + 1) ≤ (L ++ tail).length ∧ (∀ j, E i ≤ j → j < E i + 1 → isSep (byteAt (L ++ tail) j) = true) ∧ Shape (byteAt (L ++ tail)) (E i + 1) (E (i + 1)) (K i) ∧ (E (i + 1) < (L ++ tail).length → isNum (byteAt (L ++ tail) (E (i + 1))) = false) := by
  have hle := h.le (i + 1) (by omega)
  have hin := h.inc i hi
  refine ⟨hin, by rw [List.length_append]; omega, fun j h1 h2 => ?_, (h.shape i hi).mono hle ⟨tail, rfl⟩, fun hlt => ?_⟩
  · have e : j = E i := by omega
    rw [e, byteAt_left _ _ _ (by omega)]
    exact h.sep i hi
  · by_cases hn : i + 1 < np
    · have hin2 := h.inc (i + 1) hn
      have hle2 := h.le (i + 1 + 1) (by omega)
      rw [byteAt_left _ _ _ (by omega)]
      exact isSep_num _ (h.sep (i + 1) hn)
    · have e : E (i + 1) = L.length := by rw [show i + 1 = np by omega]; exact h.last
      rw [e] at hlt ⊢
      rcases ht with rfl | ⟨c, rfl, hc⟩
      · simp at hlt
      · have := byteAt_right L [c] 0
        rw [Nat.add_zero] at this
        rw [this]
        exact isSep_num c hc

theorem at_end {L tail : List Int} {np : Nat} {E : Nat → Nat} {K : Nat → Int} (h : Toks L np E K) (ht : tail = [] ∨ ∃ c, tail = [c] ∧ isSep c = true) :
    E np ≤ (L ++ tail).length ∧ ∀ j, E np ≤ j → j < (L ++ tail).length → isSep (byteAt (L ++ tail) j) = true := by
  rw [h.last]
  refine ⟨by rw [List.length_append]; omega, fun j h1 h2 => ?_⟩
  rcases ht with rfl | ⟨c, rfl, hc⟩
  · simp at h2; omega
  · simp at h2
    have e : j = L.length + 0 := by omega
    rw [e, byteAt_right]
    exact hc

theorem byteAt_range (L : List Int) (h : ∀ c ∈ L, 0 ≤ c ∧ c ≤ 255) : ∀ j, 0 ≤ byteAt L j ∧ byteAt L j ≤ 255 := by
  intro j
  by_cases hj : j < L.length
  · exact h _ (byteAt_mem L j hj)
  · simp [byteAt, List.getD, hj]

theorem tail_range {L tail : List Int} {np : Nat} {E : Nat → Nat} {K : Nat → Int} (h : Toks L np E K) (ht : tail = [] ∨ ∃ c, tail = [c] ∧ isSep c = true) : ∀ j, 0 ≤ byteAt (L ++ tail) j ∧ byteAt (L ++ tail) j ≤ 255 := by
  refine byteAt_range _ (fun c hc => ?_)
  rcases List.mem_append.1 hc with hc | hc
  · exact h.bytes c hc
  · rcases ht with rfl | ⟨d, rfl, hd⟩
    · simp at hc
    · simp at hc; subst hc
      have := isSep_cases c hd
      omega

theorem Came.below {w w' : World} {a : Option Addr} {len cap : Nat} {f : Nat → Value} (h : Came w a len cap f) (hB : Below w.heap.size w w') : Came w' a len cap f :=
  ⟨h.one, h.nil, fun x hx j hj => (hB.cell (p := x.add j) (World.block_lt_of_cell? w (x.add j) (h.cells x hx j hj))).trans (h.cells x hx j hj)⟩
end Go.Proofs.Qxb6001736a
