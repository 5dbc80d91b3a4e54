import Derived.Test.Qxb6001736aBLib
namespace Go.Proofs.Qxb6001736a
open Go.RowKit Go.ChangeShapes
set_option linter.unusedVariables false
set_option linter.unusedSimpArgs false

/-- A slice of strings that came in, at a plain address. -/
structure Strs (w : World) (sa : Option Addr) (sb so ns : Nat) (S : Nat → ByteArray) : Prop where
  ad : 0 < ns → sa = some ⟨sb, so, none⟩
  cells : ∀ j, j < ns → w.cell? ⟨sb, so + j, none⟩ = some (.string (S j))
  size : ∀ j, j < ns → (S j).size ≤ 9223372036854775807

def FitsPost (w : World) (np ns nn nq : Nat) (S : Nat → ByteArray) (e : Ending) (w' : World) : Prop :=
  w = w' ∧ ∃ b, e = .returned (.bool b) ∧ (b = true → np ≤ 65536 ∧ ns ≤ 65536 ∧ nn ≤ 65536 ∧ nq ≤ 65536 ∧ ∀ j, j < ns → (S j).size ≤ 1048576)
def BytesPost (w : World) (e : Ending) (w' : World) : Prop := w = w' ∧ ∃ b, e = .returned (.bool b)

set_option maxHeartbeats 2000000 in
theorem fits_any (w : World) (pa sa na qa : Option Addr) (np pc ns sc nn nc nq qc sb so : Nat) (S : Nat → ByteArray) (hp : np ≤ 9223372036854775807) (hs : ns ≤ 9223372036854775807) (hn : nn ≤ 9223372036854775807) (hq : nq ≤ 9223372036854775807) (hS : Hid (Strs w sa sb so ns S)) :
    Calls Try.prog 8 #[.slice pa np pc, .slice sa ns sc, .slice na nn nc, .slice qa nq qc, .int .i64 0] w (FitsPost w np ns nn nq S) := by
  by_cases h1 : np ≤ 65536
  · by_cases h2 : ns ≤ 65536
    · by_cases h3 : nn ≤ 65536
      · by_cases h4 : nq ≤ 65536
        · go_enter Try.func8, Try.ntmps8
          go_wp2_with fail
          go_loopg [11, 12] ns (fun g s11 s12 wr => ∃ (j : Nat) (t : Int), j ≤ ns ∧ g = ns - j ∧ s12 = .int .i64 j ∧ s11 = .int .i64 t ∧ 0 ≤ t ∧ t ≤ 100000000 ∧ Hid (∀ i, i < j → (S i).size ≤ 1048576) ∧ w = wr)
          case atStart => exact ⟨0, _, Nat.zero_le _, rfl, rfl, rfl, by omega, by omega, fun i hi => by omega, rfl⟩
          case round =>
            obtain ⟨j, t, hj, rfl, rfl, rfl, ht0, ht1, HS, rfl⟩ := hrel
            by_cases hlt : j < ns
            · have had := hS.out.ad (by omega)
              obtain ⟨s, HE, hsz, hc⟩ : ∃ s : ByteArray, Hid (S j = s) ∧ s.size ≤ 9223372036854775807 ∧ w.cell? ⟨sb, so + j, none⟩ = some (.string s) := ⟨S j, rfl, hS.out.size j hlt, hS.out.cells j hlt⟩
              subst had
              by_cases hs1 : s.size ≤ 1048576
              · by_cases ht : t + 2 * s.size ≤ 1048576
                · go_wp2_with fail
                  go_roundg (ns - (j + 1))
                  case measure => omega
                  case rel => exact ⟨j + 1, t + 2 * s.size, by omega, rfl, by first | rfl | go_num, by first | rfl | go_num, by omega, by omega, fun i hi => by
                    by_cases e : i = j
                    · subst e; rw [HE.out]; exact hs1
                    · exact HS.out i (by omega), rfl⟩
                · go_wp2_with fail
                  go_ret
                  exact ⟨rfl, false, rfl, fun h => by cases h⟩
              · go_wp2_with fail
                go_ret
                exact ⟨rfl, false, rfl, fun h => by cases h⟩
            · have hje : j = ns := by omega
              subst hje
              go_wp2_with fail
              go_ret
              exact ⟨rfl, _, rfl, fun _ => ⟨h1, h2, h3, h4, HS.out⟩⟩
        · go_enter Try.func8, Try.ntmps8
          go_wp2_with fail
          go_ret
          exact ⟨rfl, false, rfl, fun h => by cases h⟩
      · go_enter Try.func8, Try.ntmps8
        go_wp2_with fail
        go_ret
        exact ⟨rfl, false, rfl, fun h => by cases h⟩
    · go_enter Try.func8, Try.ntmps8
      go_wp2_with fail
      go_ret
      exact ⟨rfl, false, rfl, fun h => by cases h⟩
  · go_enter Try.func8, Try.ntmps8
    go_wp2_with fail
    go_ret
    exact ⟨rfl, false, rfl, fun h => by cases h⟩

set_option maxHeartbeats 2000000 in
theorem bytes_any (w : World) (pa sa na qa : Option Addr) (np pc ns sc nn nc nq qc sb so : Nat) (S : Nat → ByteArray) (hp : np ≤ 9223372036854775807) (hs : ns ≤ 9223372036854775807) (hn : nn ≤ 9223372036854775807) (hq : nq ≤ 9223372036854775807) (hS : Hid (Strs w sa sb so ns S)) :
    Calls Try.prog 7 #[.slice pa np pc, .slice sa ns sc, .slice na nn nc, .slice qa nq qc] w (BytesPost w) := by
  by_cases h1 : np ≤ 1048576
  · by_cases h2 : ns ≤ 1048576
    · by_cases h3 : np + ns ≤ 1048576
      · go_enter Try.func7, Try.ntmps7
        go_wp2_with fail
        go_loopg [9, 10] ns (fun g s9 s10 wr => ∃ (j t : Nat), j ≤ ns ∧ g = ns - j ∧ s10 = .int .i64 j ∧ s9 = .int .i64 t ∧ t ≤ 1048576 ∧ w = wr)
        case atStart => exact ⟨0, np + ns, Nat.zero_le _, rfl, rfl, by first | rfl | go_num, h3, rfl⟩
        case round =>
          obtain ⟨j, t, hj, rfl, rfl, rfl, ht1, rfl⟩ := hrel
          by_cases hlt : j < ns
          · have had := hS.out.ad (by omega)
            obtain ⟨s, hsz, hc⟩ : ∃ s : ByteArray, s.size ≤ 9223372036854775807 ∧ w.cell? ⟨sb, so + j, none⟩ = some (.string s) := ⟨S j, hS.out.size j hlt, hS.out.cells j hlt⟩
            subst had
            by_cases hs1 : s.size ≤ 1048576
            · by_cases ht : t + s.size ≤ 1048576
              · go_wp2_with fail
                go_roundg (ns - (j + 1))
                case measure => omega
                case rel => exact ⟨j + 1, t + s.size, by omega, rfl, by first | rfl | go_num, by first | rfl | go_num, by omega, rfl⟩
              · go_wp2_with fail
                go_ret
                exact ⟨rfl, false, rfl⟩
            · go_wp2_with fail
              go_ret
              exact ⟨rfl, false, rfl⟩
          · have hje : j = ns := by omega
            subst hje
            by_cases h4 : nn ≤ 1048576
            · by_cases h5 : t + nn ≤ 1048576
              · by_cases h6 : nq ≤ 1048576
                · by_cases h7 : t + nn + nq ≤ 1048576
                  · go_wp2_with fail
                    go_ret
                    exact ⟨rfl, true, rfl⟩
                  · go_wp2_with fail
                    go_ret
                    exact ⟨rfl, false, rfl⟩
                · go_wp2_with fail
                  go_ret
                  exact ⟨rfl, false, rfl⟩
              · go_wp2_with fail
                go_ret
                exact ⟨rfl, false, rfl⟩
            · go_wp2_with fail
              go_ret
              exact ⟨rfl, false, rfl⟩
      · go_enter Try.func7, Try.ntmps7
        go_wp2_with fail
        go_ret
        exact ⟨rfl, false, rfl⟩
    · go_enter Try.func7, Try.ntmps7
      go_wp2_with fail
      go_ret
      exact ⟨rfl, false, rfl⟩
  · go_enter Try.func7, Try.ntmps7
    go_wp2_with fail
    go_ret
    exact ⟨rfl, false, rfl⟩
end Go.Proofs.Qxb6001736a
