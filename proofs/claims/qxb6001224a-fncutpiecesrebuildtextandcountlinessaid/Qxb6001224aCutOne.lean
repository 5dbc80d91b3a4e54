import Derived.Test.Qxb6001224aCutLib
namespace Go.Proofs.Qxb6001224a
open Go.RowKit Go.ChangeShapes
set_option linter.unusedVariables false
set_option linter.unusedSimpArgs false
set_option maxRecDepth 1000000 in
set_option maxHeartbeats 1000000 in
theorem cut_one (t : ByteArray) (parts least sz : Int) (w : World) (ht : t.size ≤ 1048576) (hs : (t.size : Int) ≤ sz) (hs2 : sz ≤ 9223372036854775807) (hsz : max least (wrap64 (↑t.size / max parts 1)) = sz) (s : Nat) :
    Calls Try.prog 24 #[.string t, .int .i64 parts, .int .i64 least] w (CutPost t s parts w) := by
  go_enter Try.func24, Try.ntmps24
  go_upto_block 0 with (fail)
  clear hsz
  go_cut [8, 9, 10] (fun s8 s9 s10 wx => ∃ (ao : Option Addr) (k cap : Nat) (p : Nat → Nat) (st li : Nat), s8 = .slice ao k cap ∧ s9 = .int .i64 st ∧ s10 = .int .i64 li ∧ Hid (st = p k ∧ li = nl t 0 (p k)) ∧ st ≤ t.size ∧ li ≤ t.size ∧ Hid (Inv t s parts w ao k cap p wx))
  case first =>
    go_wp2_with fail
    go_loopg [8, 9, 10] 0 (fun g s8 s9 s10 wx => s8 = .slice none 0 0 ∧ s9 = .int .i64 0 ∧ s10 = .int .i64 0 ∧ w = wx)
    case atStart => exact ⟨rfl, rfl, rfl, rfl⟩
    case round =>
      obtain ⟨rfl, rfl, rfl, rfl⟩ := hrel
      have hl' : decide (sz < (t.size : Int)) = false := by simp; omega
      go_wp2_with fail
      all_goals
        go_meet
        refine ⟨none, 0, 0, fun _ => 0, 0, 0, rfl, rfl, rfl, ⟨rfl, ?_⟩, Nat.zero_le _, Nat.zero_le _, ⟨⟨rfl, fun j hj => by omega, Nat.zero_le _⟩, .inl rfl, World.ownsRow_nil _ _ _ _, Below.refl _ _⟩⟩
        rw [nl_zero]
  case rest =>
    obtain ⟨ao, k, cap, p, st, li, rfl, rfl, rfl, HP, hst, hli, HI⟩ := hcut
    obtain ⟨i0, hi, hz0, hz1, hz2⟩ := info_parts Try.info43
    have hkl : k ≤ t.size := by have := HI.out.cuts.mono k (Nat.le_refl _); have := HI.out.cuts.le; omega
    have hsz := HI.out.below.size
    go_wp2_with fail
    go_region_law (first
      | (refine step_append_own rfl (.tmp 95) (.tmp 105) 40 rfl w.heap.size 43 i0 _ 3 32 Try.underlying40 hi hz0 hz1 hz2 rfl (by decide) (.slice ao k cap) k (cellsOf t p k) (by simp [Act.eval]) (HI.out.own.alloc _).drew ⟨wc.heap.size, 0, none⟩ 1 1 [.string (t.extract st t.size), .int .i64 li, .int .i64 (nl t st t.size)] (by simp [Act.eval]) rfl (three_cells_drew _ _ _ _ _) (three_one _ _ _) (by unfold maxLen; omega) (by omega) (by simp; omega) ?_; intro v' w' hown' hgrow)
      | (go_simp; go_at_call 28; refine (count_nl t st t.size _).mono ?_; rintro e w' ⟨rfl, rfl⟩))
    have HD : Hid (CutPost t s parts w (.returned v') w') := cut_done HI.out HP.out _ hown' hgrow
    clear hown' hgrow HI HP
    go_wp2_with fail
    go_ret
    exact HD.out
end Go.Proofs.Qxb6001224a
