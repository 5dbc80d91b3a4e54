import Derived.Test.Qxb6000982aClone
namespace Go.Proofs.Qxb6000982a
open Go.RowKit Go.ChangeShapes
set_option linter.unusedVariables false
set_option linter.unusedSimpArgs false

/-- The bytes of a row in a world. -/
def Bytes (w : World) (b off n : Nat) (Z : Nat → Int) : Prop := ∀ j, j < n → w.cell? ⟨b, off + j, none⟩ = some (.int .u8 (Z j))

set_option maxHeartbeats 400000 in
theorem upper_any (w : World) (b off len cap : Nat) (Z : Nat → Int) (hl : len ≤ 1048576) (hc : Hid (Bytes w b off len Z)) :
    Calls Try.prog 10 #[.slice (some ⟨b, off, none⟩) len cap] w fun e w' => (∃ r : Bool, e = .returned (.bool r) ∧ (r = false → ∀ j, j < len → ¬ (65 ≤ Z j ∧ Z j ≤ 90)) ∧ (r = true → ∃ j, j < len ∧ 65 ≤ Z j ∧ Z j ≤ 90)) ∧ w' = w := by
  go_enter Try.func10, Try.ntmps10
  go_wp2
  go_loopg [3] len (fun n i wr => ∃ k : Nat, k ≤ len ∧ n = len - k ∧ i = .int .i64 k ∧ wr = w ∧ Hid (∀ j, j < k → ¬ (65 ≤ Z j ∧ Z j ≤ 90)))
  case atStart => exact ⟨0, Nat.zero_le _, rfl, rfl, rfl, fun j hj => by omega⟩
  case round =>
    obtain ⟨k, hk, rfl, rfl, rfl, HU⟩ := hrel
    by_cases hlt : k < len
    · have h1 := hc.out k hlt
      obtain ⟨c, hcz⟩ : ∃ c, c = Z k := ⟨_, rfl⟩
      rw [← hcz] at h1
      have HC : Hid (c = Z k) := hcz
      clear hcz
      by_cases h65 : 65 ≤ c
      · by_cases h90 : c ≤ 90
        · have HX : Hid (∃ j, j < len ∧ 65 ≤ Z j ∧ Z j ≤ 90) := ⟨k, hlt, by rw [← HC.out]; exact ⟨h65, h90⟩⟩
          go_wp2
          go_ret
          exact ⟨⟨true, rfl, fun h => by simp at h, fun _ => HX.out⟩, rfl⟩
        · go_wp2
          go_roundg (len - (k + 1))
          case measure => omega
          case rel =>
            refine ⟨k + 1, by omega, rfl, by go_num, rfl, fun j hj => ?_⟩
            by_cases e : j = k
            · subst e; rw [← HC.out]; omega
            · exact HU.out j (by omega)
      · have hd : decide (65 ≤ c) = false := by simpa using h65
        go_wp2
        go_roundg (len - (k + 1))
        case measure => omega
        case rel =>
          refine ⟨k + 1, by omega, rfl, by go_num, rfl, fun j hj => ?_⟩
          by_cases e : j = k
          · subst e; rw [← HC.out]; omega
          · exact HU.out j (by omega)
    · have e : k = len := by omega
      subst e
      go_wp2
      go_ret
      exact ⟨⟨false, rfl, fun _ => HU.out, fun h => by simp at h⟩, rfl⟩

theorem upper_yes (w : World) (b off len cap : Nat) (Z : Nat → Int) (hl : len ≤ 1048576) (hc : Hid (Bytes w b off len Z)) (h : Hid (¬ ∀ j, j < len → ¬ (65 ≤ Z j ∧ Z j ≤ 90))) :
    Calls Try.prog 10 #[.slice (some ⟨b, off, none⟩) len cap] w fun e w' => e = .returned (.bool true) ∧ w' = w := by
  refine (upper_any w b off len cap Z hl hc).mono ?_
  rintro e w' ⟨⟨r, rfl, h1, h2⟩, rfl⟩
  cases r with
  | true => exact ⟨rfl, rfl⟩
  | false => exact absurd (h1 rfl) h.out

theorem upper_no (w : World) (b off len cap : Nat) (Z : Nat → Int) (hl : len ≤ 1048576) (hc : Hid (Bytes w b off len Z)) (h : Hid (∀ j, j < len → ¬ (65 ≤ Z j ∧ Z j ≤ 90))) :
    Calls Try.prog 10 #[.slice (some ⟨b, off, none⟩) len cap] w fun e w' => e = .returned (.bool false) ∧ w' = w := by
  refine (upper_any w b off len cap Z hl hc).mono ?_
  rintro e w' ⟨⟨r, rfl, h1, h2⟩, rfl⟩
  cases r with
  | false => exact ⟨rfl, rfl⟩
  | true => obtain ⟨j, hj, h3⟩ := h2 rfl; exact absurd h3 (h.out j hj)

theorem lower_any (w : World) (c : Int) (h0 : 0 ≤ c) (h1 : c ≤ 255) : Calls Try.prog 16 #[.int .u8 c] w fun e w' => e = .returned (.int .u8 (low c)) ∧ w' = w := by
  by_cases h65 : 65 ≤ c
  · by_cases h90 : c ≤ 90
    · have e : low c = c + 32 := by rw [low, if_pos ⟨h65, h90⟩]
      rw [e]
      clear e
      go_enter Try.func16, Try.ntmps16
      go_wp2
      go_ret
      exact ⟨rfl, rfl⟩
    · have e : low c = c := by rw [low, if_neg (by omega)]
      rw [e]
      clear e
      go_enter Try.func16, Try.ntmps16
      go_wp2
      go_ret
      exact ⟨rfl, rfl⟩
  · have e : low c = c := by rw [low, if_neg (by omega)]
    rw [e]
    clear e
    go_enter Try.func16, Try.ntmps16
    go_wp2
    go_ret
    exact ⟨rfl, rfl⟩
end Go.Proofs.Qxb6000982a
