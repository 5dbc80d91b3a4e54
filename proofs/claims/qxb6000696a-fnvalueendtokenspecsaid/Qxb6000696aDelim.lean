import Derived.Test.Qxb6000696aVE
namespace Go.Proofs.Qxb6000696a
open Go.RowKit Go.ChangeShapes
set_option linter.unusedVariables false

theorem isDel_cases (c : Int) (h : isDel c = true) : c = 32 ∨ c = 9 ∨ c = 10 ∨ c = 13 ∨ c = 58 ∨ c = 44 ∨ c = 125 ∨ c = 93 := by
  simp [isDel] at h; omega
theorem isDel_not (c : Int) (h : isDel c = false) : (c == 32) = false ∧ (c == 9) = false ∧ (c == 10) = false ∧ (c == 13) = false ∧ (c == 58) = false ∧ (c == 44) = false ∧ (c == 125) = false ∧ (c == 93) = false := by
  simp [isDel] at h; simp; omega

theorem delim_yes (w : World) (c : Int) (h : isDel c = true) : Calls Try.prog 24 #[.int .u8 c] w fun e w' => e = .returned (.bool true) ∧ w' = w := by
  rcases isDel_cases c h with h | h | h | h | h | h | h | h
  all_goals
    subst h
    go_enter Try.func24, Try.ntmps24
    go_wp2
    go_ret
    exact ⟨rfl, rfl⟩

theorem delim_no (w : World) (c : Int) (h : isDel c = false) : Calls Try.prog 24 #[.int .u8 c] w fun e w' => e = .returned (.bool false) ∧ w' = w := by
  obtain ⟨h1, h2, h3, h4, h5, h6, h7, h8⟩ := isDel_not c h
  clear h
  go_enter Try.func24, Try.ntmps24
  go_wp2
  go_ret
  exact ⟨rfl, rfl⟩

theorem ve_any (w : World) (b len i : Nat) (Z : Nat → Int) (hi : i < len) (hl : len ≤ 1048576) (hz : ∀ j, 0 ≤ Z j ∧ Z j ≤ 255) (hc : ∀ j, j < len → w.cell? ⟨b, j, none⟩ = some (.int .u8 (Z j))) :
    Calls Try.prog 29 #[.slice (some ⟨b, 0, none⟩) len len, .int .i64 i] w (VEpost Z len i w) := by
  by_cases h1 : Z i = 123 ∨ Z i = 91
  · exact ve_brk w b len i Z hi hl (hc i hi) h1
  · by_cases h2 : Z i = 34
    · exact ve_quo w b len i Z hi hl hc h2
    · exact ve_oth w b len i Z hi hl hz hc (by omega) (by omega) h2

theorem zve_any (w : World) (b len i : Nat) (Z : Nat → Int) (hi : i < len) (hl : len ≤ 1048576) (hz : ∀ j, 0 ≤ Z j ∧ Z j ≤ 255) (hc : ∀ j, j < len → w.cell? ⟨b, j, none⟩ = some (.int .u8 (Z j))) :
    Calls Try.prog 21 #[.slice (some ⟨b, 0, none⟩) len len, .int .i64 i] w (VEpost Z len i w) := by
  have H : Hid (∀ w', w' = w → Calls Try.prog 29 #[.slice (some ⟨b, 0, none⟩) len len, .int .i64 i] w' (VEpost Z len i w')) := fun w' h => by subst h; exact ve_any _ b len i Z hi hl hz hc
  clear hc hz
  go_enter Try.func21, Try.ntmps21
  go_wp2_with (go_at_call 29; refine (H.out _ rfl).mono ?_; rintro e w' ⟨r, ok, rfl, V, rfl⟩)
  go_ret2
  exact ⟨r, ok, rfl, V, rfl⟩
end Go.Proofs.Qxb6000696a
