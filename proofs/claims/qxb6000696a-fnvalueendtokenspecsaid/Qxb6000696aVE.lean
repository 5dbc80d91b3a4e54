import Derived.Test.Qxb6000696aClone
import Derived.Test.Qxb6000696aShelf
namespace Go.Proofs.Qxb6000696a
open Go.RowKit Go.ChangeShapes
set_option linter.unusedVariables false

def isDel (c : Int) : Bool := c == 32 || c == 9 || c == 10 || c == 13 || c == 58 || c == 44 || c == 125 || c == 93

/-- What valueEnd answers, as a relation. -/
structure VE (Z : Nat → Int) (len i r : Nat) (ok : Bool) : Prop where
  brk : (Z i = 123 ∨ Z i = 91) → ok = true ∧ r = i + 1
  quo : Z i = 34 → (ok = false → r = 0) ∧ (ok = true → i + 2 ≤ r ∧ r ≤ len ∧ Z (r - 1) = 34)
  oth : Z i ≠ 123 → Z i ≠ 91 → Z i ≠ 34 → ok = true ∧ i < r ∧ r ≤ len ∧ (∀ k, i < k → k < r → isDel (Z k) = false) ∧ (r = len ∨ isDel (Z r) = true)

theorem ib_all : ∀ n : Nat, n < 256 → (isDel (n : Int) = true → 0 ≤ Lib.indexByte [32, 9, 10, 13, 58, 44, 125, 93] n.toUInt8) ∧ (isDel (n : Int) = false → Lib.indexByte [32, 9, 10, 13, 58, 44, 125, 93] n.toUInt8 < 0) := by
  decide +kernel

theorem ib_any (w : World) (c : Int) (h0 : 0 ≤ c) (h1 : c ≤ 255) : Calls Try.prog 30 #[.string { data := #[32, 9, 10, 13, 58, 44, 125, 93] }, .int .u8 c] w fun e w' => (∃ r : Int, e = .returned (.int .i64 r) ∧ (isDel c = true → 0 ≤ r) ∧ (isDel c = false → r < 0)) ∧ w' = w := by
  obtain ⟨n, rfl⟩ : ∃ n : Nat, c = (n : Int) := ⟨c.toNat, by omega⟩
  refine (Try.strings_IndexByte { data := #[32, 9, 10, 13, 58, 44, 125, 93] } (n : Int) w).mono ?_
  rintro e w' ⟨rfl, rfl⟩
  exact ⟨⟨_, rfl, (ib_all n (by omega)).1, (ib_all n (by omega)).2⟩, rfl⟩

def VEpost (Z : Nat → Int) (len i : Nat) (w : World) (e : Ending) (w' : World) : Prop := ∃ (r : Nat) (ok : Bool), e = .returned (.tuple #[.int .i64 r, .bool ok]) ∧ VE Z len i r ok ∧ w' = w

theorem ve_brk (w : World) (b len i : Nat) (Z : Nat → Int) (hi : i < len) (hl : len ≤ 1048576) (hc : w.cell? ⟨b, i, none⟩ = some (.int .u8 (Z i))) (h : Z i = 123 ∨ Z i = 91) :
    Calls Try.prog 29 #[.slice (some ⟨b, 0, none⟩) len len, .int .i64 i] w (VEpost Z len i w) := by
  have V : VE Z len i (i + 1) true := ⟨fun _ => ⟨rfl, rfl⟩, fun h' => by omega, fun h1 h2 _ => by omega⟩
  rcases h with h | h
  all_goals
    rw [h] at hc
    clear h
    go_enter Try.func29, Try.ntmps29
    go_wp2
    go_ret2
    exact ⟨i + 1, true, rfl, V, rfl⟩

set_option maxHeartbeats 400000 in
theorem ve_quo (w : World) (b len i : Nat) (Z : Nat → Int) (hi : i < len) (hl : len ≤ 1048576) (hc : ∀ j, j < len → w.cell? ⟨b, j, none⟩ = some (.int .u8 (Z j))) (h : Z i = 34) :
    Calls Try.prog 29 #[.slice (some ⟨b, 0, none⟩) len len, .int .i64 i] w (VEpost Z len i w) := by
  have hci := hc i hi
  have H : Hid (Z i = 34) := h
  have e1 : (Z i == 123) = false := by simp [h]
  have e2 : (Z i == 91) = false := by simp [h]
  have e3 : (Z i == 34) = true := by simp [h]
  clear h
  go_enter Try.func29, Try.ntmps29
  go_wp2
  clear hci e1 e2 e3
  go_loop [6] (fun v => ∃ k : Nat, i + 1 ≤ k ∧ k ≤ len + 1 ∧ v = .int .i64 k) (fun v => len + 2 - (intOf v).toNat)
  case atStart => exact ⟨i + 1, by omega, by omega, by go_num⟩
  case round =>
    obtain ⟨k, hk1, hk2, rfl⟩ := hrel
    by_cases hlt : k < len
    · have hck := hc k hlt
      clear hc
      by_cases h1 : Z k = 92
      · rw [h1] at hck
        clear h1
        go_wp2
        go_round
        case rel => exact ⟨k + 2, by omega, by omega, by go_num⟩
        case measure => simp [intOf]; omega
      · by_cases h2 : Z k = 34
        · have V : VE Z len i (k + 1) true := ⟨fun h' => by have := H.out; omega, fun _ => ⟨fun h => by simp at h, fun _ => ⟨by omega, by omega, by simpa using h2⟩⟩, fun _ _ h' => absurd H.out h'⟩
          rw [h2] at hck
          clear h1 h2
          go_wp2
          go_ret2
          exact ⟨k + 1, true, rfl, V, rfl⟩
        · have e1 : (Z k == 92) = false := by simpa using h1
          have e2 : (Z k == 34) = false := by simpa using h2
          clear h1 h2
          go_wp2
          go_round
          case rel => exact ⟨k + 1, by omega, by omega, by go_num⟩
          case measure => simp [intOf]; omega
    · have V : VE Z len i 0 false := ⟨fun h' => by have := H.out; omega, fun _ => ⟨fun _ => rfl, fun h => by simp at h⟩, fun _ _ h' => absurd H.out h'⟩
      clear hc
      go_wp2
      go_ret2
      exact ⟨0, false, rfl, V, rfl⟩

set_option maxHeartbeats 400000 in
theorem ve_oth (w : World) (b len i : Nat) (Z : Nat → Int) (hi : i < len) (hl : len ≤ 1048576) (hz : ∀ j, 0 ≤ Z j ∧ Z j ≤ 255) (hc : ∀ j, j < len → w.cell? ⟨b, j, none⟩ = some (.int .u8 (Z j))) (n1 : Z i ≠ 123) (n2 : Z i ≠ 91) (n3 : Z i ≠ 34) :
    Calls Try.prog 29 #[.slice (some ⟨b, 0, none⟩) len len, .int .i64 i] w (VEpost Z len i w) := by
  have hci := hc i hi
  have H : Hid (Z i ≠ 123 ∧ Z i ≠ 91 ∧ Z i ≠ 34) := ⟨n1, n2, n3⟩
  have HZ : Hid (∀ j, 0 ≤ Z j ∧ Z j ≤ 255) := hz
  have e1 : (Z i == 123) = false := by simpa using n1
  have e2 : (Z i == 91) = false := by simpa using n2
  have e3 : (Z i == 34) = false := by simpa using n3
  clear n1 n2 n3 hz
  go_enter Try.func29, Try.ntmps29
  go_wp2
  clear hci e1 e2 e3
  go_loop [7] (fun v => ∃ k : Nat, i + 1 ≤ k ∧ k ≤ len ∧ v = .int .i64 k ∧ Hid (∀ j, i < j → j < k → isDel (Z j) = false)) (fun v => len + 2 - (intOf v).toNat)
  case atStart => exact ⟨i + 1, by omega, by omega, by go_num, fun j _ _ => by omega⟩
  case round =>
    obtain ⟨k, hk1, hk2, rfl, HD⟩ := hrel
    by_cases hlt : k < len
    · have hck := hc k hlt
      clear hc
      obtain ⟨c, hcz⟩ : ∃ c, c = Z k := ⟨_, rfl⟩
      have hb := HZ.out k
      rw [← hcz] at hck hb
      have HC : Hid (c = Z k) := hcz
      clear hcz
      cases hd : isDel c with
      | true =>
        have V : VE Z len i k true := ⟨fun h' => by have := H.out; omega, fun h' => by have := H.out; omega, fun _ _ _ => ⟨rfl, by omega, by omega, HD.out, .inr (by rw [← HC.out]; exact hd)⟩⟩
        clear HD HC H HZ
        have hb0 := hb.1
        have hb1 := hb.2
        clear hb
        go_wp2_with (go_at_call 30; refine (ib_any _ _ hb0 hb1).mono ?_; rintro e w' ⟨⟨r, rfl, hr1, hr2⟩, rfl⟩; have hr := hr1 hd; clear hr1 hr2)
        go_ret2
        exact ⟨k, true, rfl, V, rfl⟩
      | false =>
        have HD' : Hid (∀ j, i < j → j < k + 1 → isDel (Z j) = false) := fun j h1 h2 => by
          by_cases e : j = k
          · subst e; rw [← HC.out]; exact hd
          · exact HD.out j h1 (by omega)
        clear HD HC H HZ
        have hb0 := hb.1
        have hb1 := hb.2
        clear hb
        go_wp2_with (go_at_call 30; refine (ib_any _ _ hb0 hb1).mono ?_; rintro e w' ⟨⟨r, rfl, hr1, hr2⟩, rfl⟩; have hr := hr2 hd; clear hr1 hr2)
        go_round
        case rel => exact ⟨k + 1, by omega, by omega, by go_num, HD'⟩
        case measure => simp [intOf]; omega
    · have e : k = len := by omega
      subst e
      have V : VE Z k i k true := ⟨fun h' => by have := H.out; omega, fun h' => by have := H.out; omega, fun _ _ _ => ⟨rfl, by omega, by omega, HD.out, .inl rfl⟩⟩
      clear hc H HD HZ
      go_wp2_with fail
      go_ret2
      exact ⟨k, true, rfl, V, rfl⟩
end Go.Proofs.Qxb6000696a
