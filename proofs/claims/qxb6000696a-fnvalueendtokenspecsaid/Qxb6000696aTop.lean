import Derived.Test.Qxb6000696aDelim
namespace Go.Proofs.Qxb6000696a
open Go.RowKit Go.ChangeShapes
set_option linter.unusedVariables false

def TopPost (w : World) (e : Ending) (w' : World) : Prop := e = .returned (.bool true) ∧ Below w.heap.size w w'

theorem top_long (w : World) (a : Option Addr) (len cap : Nat) (i : Int) (h : ¬ len ≤ 1048576) (hl : len ≤ 9223372036854775807) :
    Calls Try.prog 9 #[.slice a len cap, .int .i64 i] w (TopPost w) := by
  go_enter Try.func9, Try.ntmps9
  go_wp2
  go_ret
  exact ⟨rfl, Below.refl _ _⟩

theorem top_out (w : World) (a : Option Addr) (len cap : Nat) (i : Int) (hl : len ≤ 1048576) (h : i < 0 ∨ len ≤ i) :
    Calls Try.prog 9 #[.slice a len cap, .int .i64 i] w (TopPost w) := by
  by_cases h0 : i < 0
  · clear h
    go_enter Try.func9, Try.ntmps9
    go_wp2
    go_ret
    exact ⟨rfl, Below.refl _ _⟩
  · have h1 : len ≤ i := by omega
    clear h
    go_enter Try.func9, Try.ntmps9
    go_wp2
    go_ret
    exact ⟨rfl, Below.refl _ _⟩

/-- The clone, as the top text uses it: at least one byte. -/
theorem clone_top (w : World) (b off len cap : Nat) (Z : Nat → Int) (hp : 0 < len) (hl : len ≤ 1048576) (hc : ∀ j, j < len → w.cell? ⟨b, off + j, none⟩ = some (.int .u8 (Z j))) :
    Calls Try.prog 15 #[.slice (some ⟨b, off, none⟩) len cap] w fun e w' => ∃ g, e = .returned (.slice (some ⟨g, 0, none⟩) len len) ∧ Hid (Below w.heap.size w w') ∧ Hid (∀ j, j < len → w'.cell? ⟨g, j, none⟩ = some (.int .u8 (Z j))) := by
  refine (clone_some w b off len cap Z hl hc).mono ?_
  rintro e w' ⟨g, rfl, hb, ⟨_, h0⟩ | ⟨b', rfl, _, hr⟩⟩
  · omega
  · exact ⟨b', rfl, hb, fun j hj => hr.cell hj⟩

theorem zve_top (w : World) (b len i : Nat) (Z : Nat → Int) (hi : i < len) (hl : len ≤ 1048576) (hz : Hid (∀ j, 0 ≤ Z j ∧ Z j ≤ 255)) (hc : Hid (∀ j, j < len → w.cell? ⟨b, j, none⟩ = some (.int .u8 (Z j)))) :
    Calls Try.prog 21 #[.slice (some ⟨b, 0, none⟩) len len, .int .i64 i] w (VEpost Z len i w) := zve_any w b len i Z hi hl hz.out hc.out

set_option maxHeartbeats 1000000 in
theorem top_brk (w : World) (b off len cap i : Nat) (Z : Nat → Int) (hi : i < len) (hl : len ≤ 1048576) (hz : Hid (∀ j, 0 ≤ Z j ∧ Z j ≤ 255)) (hc : Hid (∀ j, j < len → w.cell? ⟨b, off + j, none⟩ = some (.int .u8 (Z j)))) (h : Hid (Z i = 123 ∨ Z i = 91)) :
    Calls Try.prog 9 #[.slice (some ⟨b, off, none⟩) len cap, .int .i64 i] w (TopPost w) := by
  rcases h.out with h' | h'
  all_goals
    go_enter Try.func9, Try.ntmps9
    go_wp2_with (first
      | (go_at_call 15; refine (clone_top _ _ _ _ _ Z (by omega) hl hc.out).mono ?_; rintro e w1 ⟨g, rfl, hb, hc1⟩; have hci := hc1.out i hi; rw [h'] at hci)
      | (go_at_call 21; refine (zve_top _ _ len i Z hi hl hz (by assumption)).mono ?_; rintro e w2 ⟨r, ok, rfl, V, rfl⟩; obtain ⟨rfl, rfl⟩ := V.brk h.out)
      | (go_at_call 23; go_in))
    go_ret
    exact ⟨rfl, hb.out⟩

set_option maxHeartbeats 1000000 in
theorem top_quo (w : World) (b off len cap i : Nat) (Z : Nat → Int) (hi : i < len) (hl : len ≤ 1048576) (hz : Hid (∀ j, 0 ≤ Z j ∧ Z j ≤ 255)) (hc : Hid (∀ j, j < len → w.cell? ⟨b, off + j, none⟩ = some (.int .u8 (Z j)))) (h : Hid (Z i = 34)) :
    Calls Try.prog 9 #[.slice (some ⟨b, off, none⟩) len cap, .int .i64 i] w (TopPost w) := by
  go_enter Try.func9, Try.ntmps9
  go_wp2_with (first
    | (go_at_call 15; refine (clone_top _ _ _ _ _ Z (by omega) hl hc.out).mono ?_; rintro e w1 ⟨g, rfl, hb, hc1⟩; have hci := hc1.out i hi; rw [h.out] at hci)
    | (go_at_call 23; go_in))
  refine (zve_top _ _ len i Z hi hl hz hc1).mono ?_
  rintro e w2 ⟨r, ok, rfl, V, rfl⟩
  obtain ⟨V1, V2⟩ := V.quo h.out
  clear V
  cases ok with
  | false =>
    obtain rfl := V1 rfl
    clear V1 V2
    go_wp2
    go_ret
    exact ⟨rfl, hb.out⟩
  | true =>
    obtain ⟨r1, r2, r3⟩ := V2 rfl
    obtain ⟨q, rfl⟩ : ∃ q, r = q + 1 := ⟨r - 1, by omega⟩
    have hcq := hc1.out q (by omega)
    rw [show q + 1 - 1 = q by omega] at r3
    rw [r3] at hcq
    clear V1 V2 r3
    go_wp2
    go_ret
    exact ⟨rfl, hb.out⟩

set_option maxHeartbeats 1000000 in
theorem top_oth (w : World) (b off len cap i : Nat) (Z : Nat → Int) (hi : i < len) (hl : len ≤ 1048576) (hz : Hid (∀ j, 0 ≤ Z j ∧ Z j ≤ 255)) (hc : Hid (∀ j, j < len → w.cell? ⟨b, off + j, none⟩ = some (.int .u8 (Z j)))) (n1 : Hid (Z i ≠ 123)) (n2 : Hid (Z i ≠ 91)) (n3 : Hid (Z i ≠ 34)) :
    Calls Try.prog 9 #[.slice (some ⟨b, off, none⟩) len cap, .int .i64 i] w (TopPost w) := by
  have e1 : (Z i == 123) = false := by simpa using n1.out
  have e2 : (Z i == 91) = false := by simpa using n2.out
  have e3 : (Z i == 34) = false := by simpa using n3.out
  go_enter Try.func9, Try.ntmps9
  go_wp2_with (first
    | (go_at_call 15; refine (clone_top _ _ _ _ _ Z (by omega) hl hc.out).mono ?_; rintro e w1 ⟨g, rfl, hb, hc1⟩; have hci := hc1.out i hi)
    | (go_at_call 23; go_in))
  refine (zve_top _ _ len i Z hi hl hz hc1).mono ?_
  rintro e w2 ⟨r, ok, rfl, V, rfl⟩
  obtain ⟨rfl, r1, r2, r3, r4⟩ := V.oth n1.out n2.out n3.out
  have R3 : Hid (∀ k, i < k → k < r → isDel (Z k) = false) := r3
  have R4 : Hid (r = len ∨ isDel (Z r) = true) := r4
  clear V r3 r4
  have d1 : decide (r ≤ i) = false := by simp; omega
  have d2 : decide (len < r) = false := by simp; omega
  go_wp2
  clear e1 e2 e3 hci
  go_loopg [8] (len + 2 - (i + 1)) (fun n v wr => ∃ k : Nat, i + 1 ≤ k ∧ k ≤ r ∧ v = .int .i64 k ∧ n = len + 2 - k ∧ wr = w2)
  case atStart => exact ⟨i + 1, by omega, by omega, by go_num, rfl, rfl⟩
  case round =>
    obtain ⟨k, hk1, hk2, rfl, rfl, rfl⟩ := hrel
    by_cases hlt : k < r
    · have hck := hc1.out k (by omega)
      have hd := R3.out k (by omega) hlt
      go_wp2_with (go_at_call 24; refine (delim_no _ _ hd).mono ?_; rintro e w' ⟨rfl, rfl⟩)
      go_roundg (len + 2 - (k + 1))
      case measure => omega
      case rel => exact ⟨k + 1, by omega, by omega, by go_num, rfl, rfl⟩
    · by_cases hrl : r = len
      · have hrl' : ((r : Int) == (len : Int)) = true := by simp [hrl]
        have HR : Hid (r = len) := hrl
        clear hrl
        go_wp2_with fail
        go_ret
        exact ⟨rfl, hb.out⟩
      · have hrl' : ((r : Int) == (len : Int)) = false := by simp; omega
        have hcr := hc1.out r (by omega)
        have hd : isDel (Z r) = true := by rcases R4.out with h | h; exact absurd h hrl; exact h
        go_wp2_with (go_at_call 24; refine (delim_yes _ _ hd).mono ?_; rintro e w' ⟨rfl, rfl⟩)
        go_ret
        exact ⟨rfl, hb.out⟩
end Go.Proofs.Qxb6000696a
