import Derived.Test.Qxb6001224aZLib
namespace Go.Proofs.Qxb6001224a
open Go.RowKit Go.ChangeShapes
set_option linter.unusedVariables false
set_option linter.unusedSimpArgs false

/-- What ZZCut hands back: n + 1 pieces of the text, cut at p. -/
def ZPost (t : ByteArray) (g : Nat) (parts : Int) (w : World) (e : Ending) (w' : World) : Prop :=
  ∃ (n : Nat) (p : Nat → Nat) (a b c : Value) (B : Nat), e = .returned (.tuple #[a, b, c]) ∧ (n = 0 ∨ (n : Int) ≤ parts - 1) ∧ Cuts t.size g p n ∧ w.heap.size ≤ B ∧
    w'.ownsRow B 9 1 a (n + 1) (rowV (fText t (withCut p n t.size)) (n + 1)) ∧ w'.ownsRow B 3 1 b (n + 1) (rowV (fLine t (withCut p n t.size)) (n + 1)) ∧ w'.ownsRow B 3 1 c (n + 1) (rowV (fEnd t (withCut p n t.size)) (n + 1)) ∧ Below w.heap.size w w'

set_option maxRecDepth 1000000 in
set_option maxHeartbeats 2000000 in
theorem zcut_any (t : ByteArray) (parts least : Int) (w : World) (ht : t.size ≤ 1048576) (hp : parts ≤ 9223372036854775807) (hl : least ≤ 9223372036854775807) :
    Calls Try.prog 12 #[.string t, .int .i64 parts, .int .i64 least] w (ZPost t (sizeOf t parts least) parts w) := by
  go_enter Try.func12, Try.ntmps12
  go_wp2_with fail
  refine (cut_any t parts least _ ht hp hl).mono ?_
  rintro e w1 ⟨n, p, v, rfl, hmany, hcuts, hown, hB⟩
  obtain ⟨g, cap, rfl⟩ : ∃ g cap, v = .slice (some ⟨g, 0, none⟩) (n + 1) cap := by
    rcases hown.2 with ⟨_, h⟩ | ⟨g, cap, cur, rfl, _⟩
    · omega
    · exact ⟨g, cap, rfl⟩
  have hn : n ≤ t.size := by have := hcuts.mono n (Nat.le_refl _); have := hcuts.le; omega
  have hg : g < w1.heap.size := (own_lt hown g rfl).2
  have HC : Hid (∀ j i, j < n + 1 → i < 3 → w1.cell? ⟨g, j * 3 + i, none⟩ = (pieceCells t (withCut p n t.size) j)[i]?) := by
    intro j i hj hi
    rw [hown.cellAt (j * 3 + i) (by omega)]
    exact cellsOf_at _ _ _ _ _ hj hi
  have HQ : Hid ((n = 0 ∨ (n : Int) ≤ parts - 1) ∧ Cuts t.size (sizeOf t parts least) p n ∧ Below w.heap.size w w1) := ⟨hmany, hcuts, hB⟩
  obtain ⟨P, hP⟩ : ∃ P, P = withCut p n t.size := ⟨_, rfl⟩
  rw [← hP] at HC
  have HP : Hid (P = withCut p n t.size) := hP
  clear hmany hcuts hB hown hP
  go_wp2_with fail
  go_loopg [6, 7, 8, 10] (n + 1) (fun gk a b c i wr => ∃ j : Nat, j ≤ n + 1 ∧ gk = n + 1 - j ∧ i = .int .i64 j ∧ Hid (ZInv t P w1 j j j a b c wr))
  case atStart => exact ⟨0, Nat.zero_le _, rfl, rfl, ZInv.start t P w1⟩
  case round =>
    obtain ⟨j, hj, rfl, rfl, HI⟩ := hrel
    by_cases hlt : j < n + 1
    · have k0 : wr.cell? ⟨g, j * 3, none⟩ = some (.string (t.extract (P j) (P (j + 1)))) := (HI.out.below.cell (p := ⟨g, j * 3, none⟩) hg).trans (HC.out j 0 hlt (by omega))
      have K1 : Hid (∀ wx, Below w1.heap.size w1 wx → wx.cell? ⟨g, j * 3 + 1, none⟩ = some (.int .i64 (nl t 0 (P j)))) := fun wx hx => (hx.cell (p := ⟨g, j * 3 + 1, none⟩) hg).trans (HC.out j 1 hlt (by omega))
      have K2 : Hid (∀ wx, Below w1.heap.size w1 wx → wx.cell? ⟨g, j * 3 + 2, none⟩ = some (.int .i64 (nl t (P j) (P (j + 1))))) := fun wx hx => (hx.cell (p := ⟨g, j * 3 + 2, none⟩) hg).trans (HC.out j 2 hlt (by omega))
      obtain ⟨i9, h9, hz90, hz91, hz92⟩ := info_parts Try.info9
      obtain ⟨i3, h3, hz30, hz31, hz32⟩ := info_parts Try.info3
      have hsz := HI.out.below.size
      go_wp2_with (first
        | (at_builtin; refine wpList_append_own_at _ rfl (.tmp 21) (.tmp 27) 23 rfl w1.heap.size 9 i9 _ 1 16 Try.underlying23 h9 hz90 hz91 hz92 rfl (by decide) _ j (rowV (fText t P) j) rfl (HI.out.texts.alloc _) ⟨wr.heap.size, 0, none⟩ 1 1 [.string (t.extract (P j) (P (j + 1)))] rfl rfl (one_cell _ _ _) (one_str _) (by unfold maxLen; omega) (by omega) (by simp; omega) ?_; intro a' w2 ho2 hg2 _ hl2; have HI2 : Hid (ZInv t P w1 (j + 1) j j a' u7 u8 w2) := HI.out.text ho2 hg2 hl2; have k1 := K1.out _ HI2.out.below; have hsz2 := HI2.out.below.size; clear ho2 hg2 hl2)
        | (at_builtin; refine wpList_append_own_at _ rfl (.tmp 29) (.tmp 35) 24 rfl w1.heap.size 3 i3 _ 1 8 Try.underlying24 h3 hz30 hz31 hz32 rfl (by decide) _ j (rowV (fLine t P) j) rfl (HI2.out.lines.alloc _) ⟨w2.heap.size, 0, none⟩ 1 1 [.int .i64 (nl t 0 (P j))] rfl rfl (one_cell _ _ _) (one_int _) (by unfold maxLen; omega) (by omega) (by simp; omega) ?_; intro b' w3 ho3 hg3 _ hl3; have HI3 : Hid (ZInv t P w1 (j + 1) (j + 1) j a' b' u8 w3) := HI2.out.line ho3 hg3 hl3; have k2 := K2.out _ HI3.out.below; have hsz3 := HI3.out.below.size; clear ho3 hg3 hl3)
        | (at_builtin; refine wpList_append_own_at _ rfl (.tmp 37) (.tmp 43) 24 rfl w1.heap.size 3 i3 _ 1 8 Try.underlying24 h3 hz30 hz31 hz32 rfl (by decide) _ j (rowV (fEnd t P) j) rfl (HI3.out.ends.alloc _) ⟨w3.heap.size, 0, none⟩ 1 1 [.int .i64 (nl t (P j) (P (j + 1)))] rfl rfl (one_cell _ _ _) (one_int _) (by unfold maxLen; omega) (by omega) (by simp; omega) ?_; intro c' w4 ho4 hg4 _ hl4; have HI4 : Hid (ZInv t P w1 (j + 1) (j + 1) (j + 1) a' b' c' w4) := HI3.out.theEnd ho4 hg4 hl4; clear ho4 hg4 hl4))
      go_roundg (n + 1 - (j + 1))
      case measure => omega
      case rel => exact ⟨j + 1, by omega, rfl, by go_num, HI4⟩
    · have e : j = n + 1 := by omega
      subst e
      have HD : Hid (ZPost t (sizeOf t parts least) parts w (.returned (.tuple #[u6, u7, u8])) wr) := by
        obtain ⟨h1, h2, h3⟩ := HQ.out
        have e := HP.out
        subst e
        exact ⟨n, p, u6, u7, u8, w1.heap.size, rfl, h1, h2, h3.size, HI.out.texts, HI.out.lines, HI.out.ends, h3.trans (HI.out.below.mono h3.size)⟩
      clear HI HQ HC HP
      go_wp2_with fail
      go_ret3
      exact HD.out
end Go.Proofs.Qxb6001224a
