import Derived.Test.Qxb6001224aRows
import Derived.Test.Qxb6001224aShelf
import Derived.WalkKit
import Derived.ProofKit
import Derived.OpenShut
import Derived.WalkSpells
import Derived.Deep.OwnRows
import Derived.Deep.LoopGhost
import Derived.Deep.QuietTactic
import Derived.BigQuiet
import Derived.Below
import Derived.Lib.OthersKept
namespace Go.Proofs.Qxb6001224a
open Go.RowKit Go.ChangeShapes
set_option linter.unusedVariables false
set_option linter.unusedSimpArgs false

theorem dec0 : Utf8.decode ⟨#[34, 10]⟩ 0 = (34, 1) := by decide +kernel
theorem dec1 : Utf8.decode ⟨#[34, 10]⟩ 1 = (10, 1) := by decide +kernel

theorem ib_empty (c : Int) (w : World) : Calls Try.prog 39 #[.string (ByteArray.extract ⟨#[34, 10]⟩ 2 2), .int .u8 c] w fun e w' => e = .returned (.int .i64 (-1)) ∧ w' = w := by
  refine (Try.strings_IndexByte _ c w).mono ?_
  rintro e w' ⟨rfl, rfl⟩
  have h : (ByteArray.extract ⟨#[34, 10]⟩ 2 2).data.toList = [] := by decide +kernel
  rw [h]
  exact ⟨rfl, rfl⟩

set_option maxRecDepth 1000000 in
set_option maxHeartbeats 1000000 in
theorem rune_err (w : World) : Calls Try.prog 34 #[.string ⟨#[34, 10]⟩, .int .i32 65533] w fun e w' => e = .returned (.int .i64 (-1)) ∧ Below w.heap.size w w' := by
  go_enter Try.func34, Try.ntmps34
  go_wp2
  go_loopg [5, 6] 2 (fun g _ _ wx => ∃ i : Nat, i ≤ 2 ∧ g = 2 - i ∧ wx = w.iter ⟨#[34, 10]⟩ i)
  case atStart => exact ⟨0, by omega, rfl, rfl⟩
  case round =>
    obtain ⟨i, hi, rfl, rfl⟩ := hrel
    rcases (show i = 0 ∨ i = 1 ∨ i = 2 by omega) with rfl | rfl | rfl
    · have hnx := fun ty => run_next_any (P := Try.prog) w ⟨#[34, 10]⟩ 0 ty (by decide)
      rw [dec0] at hnx
      go_wp2
      go_roundg 1
      case measure => omega
      case rel => exact ⟨1, by omega, rfl, rfl⟩
    · have hnx := fun ty => run_next_any (P := Try.prog) w ⟨#[34, 10]⟩ 1 ty (by decide)
      rw [dec1] at hnx
      go_wp2
      go_roundg 0
      case measure => omega
      case rel => exact ⟨2, by omega, rfl, rfl⟩
    · have hnx := fun ty => run_next_end (P := Try.prog) w ⟨#[34, 10]⟩ 2 ty (by decide)
      go_wp2
      go_ret
      exact ⟨rfl, (Below.refl _ _).alloc (Nat.le_refl _) _⟩
set_option maxRecDepth 1000000 in
set_option maxHeartbeats 1000000 in
theorem rune_hi (w : World) (r : Int) (h : 128 ≤ r) (h2 : r ≤ 2147483647) (h3 : r ≠ 65533) : Calls Try.prog 34 #[.string ⟨#[34, 10]⟩, .int .i32 r] w fun e w' => e = .returned (.int .i64 (-1)) ∧ Below w.heap.size w w' := by
  have e1 : (r == 65533) = false := by simpa using h3
  cases hv : Lib.validRune r with
  | false =>
    go_enter Try.func34, Try.ntmps34
    go_wp2_with (go_at_call 40; refine (Try.utf8_ValidRune _ _).mono ?_; rw [hv]; rintro e w' ⟨rfl, rfl⟩)
    go_ret
    exact ⟨rfl, Below.refl _ _⟩
  | true =>
    go_enter Try.func34, Try.ntmps34
    go_wp2_with (go_at_call 40; refine (Try.utf8_ValidRune _ _).mono ?_; rw [hv]; rintro e w' ⟨rfl, rfl⟩)
    obtain ⟨f1, f2, f3⟩ := encode_facts r (by rw [Go.validRune_eq]; exact hv) h
    by_cases h2 : (Utf8.encode r).size = 2
    · have hlt : 1 < (Utf8.encode r).size := by omega
      have hge : 128 ≤ ((Utf8.encode r)[1]'hlt).toNat := by
        have := f3 (by omega)
        simpa only [h2] using this
      obtain ⟨x, hx⟩ : ∃ x : UInt8, (Utf8.encode r)[1]'hlt = x := ⟨_, rfl⟩
      rw [hx] at hge
      have hten : ((⟨#[34, 10]⟩ : ByteArray)[1]'(by decide)).toNat = 10 := by decide +kernel
      have hne : ((((⟨#[34, 10]⟩ : ByteArray)[1]'(by decide)).toNat : Int) != ((x.toNat : Nat) : Int)) = true := by rw [hten]; simp; omega
      clear hten
      clear f3 f1 f2 e1 hv
      go_step3
      go_wp2_with fail
      refine wp_loop_rounds 1 ?_
      rw [rounds_succ]
      go_wp2_with fail
      go_step3
      go_wp2_with fail
      go_quiet (fail)
      go_wp2_with fail
      obtain ⟨W2, hW2⟩ : ∃ W2, W2 = w'.drewN nq := ⟨_, rfl⟩
      rw [← hW2]
      have HW2 : Hid (W2 = w'.drewN nq) := hW2
      clear hW2
      go_quiet ((go_at_call 39; exact Calls.quiet_of_same (ib_empty _ _)))
      have hB : ∀ n, Below w'.heap.size w' (W2.drewN n) := fun n => by rw [HW2.out]; exact ⟨rfl, rfl, rfl, Nat.le_refl _, fun _ _ => rfl⟩
      have HB : Hid (∀ n, Below w'.heap.size w' (W2.drewN n)) := hB
      clear hB HW2
      go_wp2_with fail
      simp only [Exit.noGoto_ret, Exit.inBlock, Exit.then]
      go_ret
      exact ⟨rfl, HB.out _⟩
    · have h3' : 3 ≤ (Utf8.encode r).size := by omega
      clear f3 h2 e1 hv
      go_step3
      go_wp2_with fail
      refine wp_loop_rounds 1 ?_
      rw [rounds_succ]
      go_wp2_with fail
      try rw [Exit.noGoto_ret]
      go_ret
      exact ⟨rfl, Below.refl _ _⟩

theorem below_iter (w : World) (s : ByteArray) (i : Nat) : Below w.heap.size w (w.iter s i) := (Below.refl _ _).alloc (Nat.le_refl _) _

/-- IndexRune in the two quote characters, whatever the rune that a range over a string gives. -/
theorem rune_any (w : World) (r : Nat) (h : r ≤ 2147483647) : Calls Try.prog 34 #[.string ⟨#[34, 10]⟩, .int .i32 r] w fun e w' => (∃ q : Int, e = .returned (.int .i64 q)) ∧ Below w.heap.size w w' := by
  by_cases h1 : r < 128
  · refine (Try.strings_IndexRune_ascii _ (r : Int) w (by omega) (by omega)).mono ?_
    rintro e w' ⟨rfl, rfl⟩
    exact ⟨⟨_, rfl⟩, Below.refl _ _⟩
  · by_cases h2 : (r : Int) = 65533
    · rw [h2]
      refine (rune_err w).mono ?_
      rintro e w' ⟨rfl, hb⟩
      exact ⟨⟨_, rfl⟩, hb⟩
    · refine (rune_hi w r (by omega) (by omega) h2).mono ?_
      rintro e w' ⟨rfl, hb⟩
      exact ⟨⟨_, rfl⟩, hb⟩
end Go.Proofs.Qxb6001224a
