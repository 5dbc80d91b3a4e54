import Derived.Test.Qxb6001224aCutOne
namespace Go.Proofs.Qxb6001224a
open Go.RowKit Go.ChangeShapes
set_option linter.unusedVariables false
set_option linter.unusedSimpArgs false

theorem any_at (t : ByteArray) (e : Nat) (w : World) (ht : t.size ≤ 1048576) (he : e ≤ t.size) : Calls Try.prog 29 #[.string (t.extract e t.size), .string ⟨#[34, 10]⟩] w fun x w' => (∃ q : Int, x = .returned (.int .i64 q) ∧ -1 ≤ q ∧ q < (t.size : Int) - e) ∧ Hid (Below w.heap.size w w') := by
  have hsz : (t.extract e t.size).size = t.size - e := by simp
  refine (any_all (t.extract e t.size) w (by omega)).mono ?_
  rintro x w' ⟨⟨q, rfl, h1, h2⟩, hB⟩
  rw [hsz] at h2
  exact ⟨⟨q, rfl, h1, by omega⟩, hB⟩

set_option maxRecDepth 1000000 in
set_option maxHeartbeats 2000000 in
theorem cut_many (t : ByteArray) (parts least : Int) (s : Nat) (w : World) (ht : t.size ≤ 1048576) (hs : s < t.size) (hp : 2 ≤ parts) (hp2 : parts ≤ 9223372036854775807) (hsz : max least (wrap64 (↑t.size / max parts 1)) = (s : Int)) :
    Calls Try.prog 24 #[.string t, .int .i64 parts, .int .i64 least] w (CutPost t s parts w) := by
  go_enter Try.func24, Try.ntmps24
  go_upto_block 0 with (fail)
  clear hsz
  go_cut [8, 9, 10] (fun s8 s9 s10 wx => ∃ (ao : Option Addr) (k cap : Nat) (p : Nat → Nat) (st li : Nat), s8 = .slice ao k cap ∧ s9 = .int .i64 st ∧ s10 = .int .i64 li ∧ Hid (st = p k ∧ li = nl t 0 (p k)) ∧ st ≤ t.size ∧ li ≤ t.size ∧ Hid (Inv t s parts w ao k cap p wx))
  case first =>
    go_wp2_with fail
    go_loopg [8, 9, 10, 11] t.size (fun g s8 s9 s10 s11 wx => ∃ (ao : Option Addr) (k cap : Nat) (p : Nat → Nat) (st li : Nat) (q : Int), s8 = .slice ao k cap ∧ s9 = .int .i64 st ∧ s10 = .int .i64 li ∧ s11 = .int .i64 q ∧ g = t.size - st ∧ Hid (st = p k ∧ li = nl t 0 (p k)) ∧ st ≤ t.size ∧ li ≤ t.size ∧ k ≤ t.size ∧ Hid (Inv t s parts w ao k cap p wx))
    case atStart =>
      refine ⟨none, 0, 0, fun _ => 0, 0, 0, 0, rfl, rfl, rfl, rfl, rfl, ⟨rfl, ?_⟩, Nat.zero_le _, Nat.zero_le _, Nat.zero_le _, ⟨⟨rfl, fun j hj => by omega, Nat.zero_le _⟩, .inl rfl, World.ownsRow_nil _ _ _ _, Below.refl _ _⟩⟩
      rw [nl_zero]
    case round =>
      obtain ⟨ao, k, cap, p, st, li, q, rfl, rfl, rfl, rfl, rfl, HP, hst, hli, hk, HI⟩ := hrel
      by_cases hc : (k : Int) < parts - 1
      · by_cases hl : st + s < t.size
        · go_upto_block 2 with (go_at_call 28; refine (count_any _ _ _).mono ?_; rintro x w' ⟨⟨qc, rfl⟩, hw⟩; obtain rfl := hw.symm)
          go_cut [11, 12] (fun s11 s12 wx => ∃ (q : Int) (e : Nat), s11 = .int .i64 q ∧ s12 = .int .i64 e ∧ st + s ≤ e ∧ st + 1 ≤ e ∧ e ≤ t.size ∧ Hid (Inv t s parts w ao k cap p wx))
          case first =>
            go_wp2_with fail
            go_loopg [11, 12] (t.size - (st + s)) (fun g s11 s12 wx => ∃ (q : Int) (e : Nat), s11 = .int .i64 q ∧ s12 = .int .i64 e ∧ st + s ≤ e ∧ e ≤ t.size ∧ g = t.size - e ∧ Hid (Inv t s parts w ao k cap p wx))
            case atStart => exact ⟨_, st + s, rfl, by go_num, Nat.le_refl _, by omega, rfl, HI⟩
            case round =>
              obtain ⟨q2, e, rfl, rfl, he1, he2, rfl, HI2⟩ := hrel
              by_cases he : e < t.size
              · go_wp2_with fail
                refine (any_at t e _ ht (by omega)).mono ?_
                rintro x w2 ⟨⟨qa, rfl, hq1, hq2⟩, hB2⟩
                have HI3 : Hid (Inv t s parts w ao k cap p w2) := HI2.out.later hB2.out
                clear hB2 HI2
                by_cases hqa : qa < 0
                · go_wp2_with fail
                  go_meet
                  exact ⟨q2, t.size, rfl, rfl, by omega, by omega, Nat.le_refl _, HI3⟩
                · obtain ⟨j, rfl⟩ : ∃ j : Nat, qa = (j : Int) := ⟨qa.toNat, by omega⟩
                  have hj : e + j < t.size := by omega
                  go_wp2_with fail
                  · go_roundg (t.size - (e + j + 1))
                    case measure => omega
                    case rel => exact ⟨_, e + j + 1, rfl, by go_num, by omega, by omega, rfl, HI3⟩
                  · go_meet
                    exact ⟨q2, e + j + 1, rfl, by go_num, by omega, by omega, by omega, HI3⟩
                  · go_roundg (t.size - (e + j + 1))
                    case measure => omega
                    case rel => exact ⟨_, e + j + 1, rfl, by go_num, by omega, by omega, rfl, HI3⟩
              · go_wp2_with fail
                go_meet
                exact ⟨q2, e, rfl, rfl, by omega, by omega, by omega, HI2⟩
          case rest =>
            obtain ⟨q2, e, rfl, rfl, he1, he2, he3, HI2⟩ := hcut
            clear HI
            by_cases he : e = t.size
            · have he' : ((e : Int) == (t.size : Int)) = true := by simp [he]
              have HE : Hid (e = t.size) := he
              clear he
              go_wp2_with fail
              go_meet
              exact ⟨ao, k, cap, p, st, li, rfl, rfl, rfl, HP, hst, hli, HI2⟩
            · have he' : ((e : Int) == (t.size : Int)) = false := by simp; omega
              go_upto_region 16 with (fail)
              go_cut [14] (fun s14 wx => s14 = .pointer (some ⟨wc.heap.size, 0, none⟩) ∧ wx = (wc.alloc (.cells #[.string (t.extract st e), .int .i64 li, .int .i64 (nl t st e)] 43)).drew)
              case first =>
                go_region_with (go_at_call 28; refine (count_nl t st e _).mono ?_; rintro x w' ⟨rfl, rfl⟩)
                all_goals (go_wp2_with fail; go_meet; exact ⟨rfl, rfl⟩)
              case rest =>
                obtain ⟨rfl, rfl⟩ := hcut
                obtain ⟨i0, hi, hz0, hz1, hz2⟩ := info_parts Try.info43
                have hBs := HI2.out.below.size
                go_wp2_with (at_builtin; refine wpList_append_own _ rfl (.tmp 86) (.tmp 88) 40 rfl w.heap.size 43 i0 _ 3 32 Try.underlying40 hi hz0 hz1 hz2 rfl (by decide) (.slice ao k cap) k (cellsOf t p k) rfl ((HI2.out.own.alloc _).alloc _).drew ⟨wc.heap.size + 1, 0, none⟩ 1 1 [.string (t.extract st e), .int .i64 li, .int .i64 (nl t st e)] rfl rfl (three_cells2 _ _ _ _ _ _) (three_one _ _ _) (by unfold maxLen; omega) (by omega) (by simp; omega) ?_)
                intro v' w2 hown' hgrow _
                obtain ⟨ao', cap', rfl, HI3, hcl⟩ := cut_step HI2.out HP.out hc he1 he2 he3 _ _ _ _ hown' hgrow
                have hnl := nl_le t st e
                have hnl2 := nl_le t 0 e
                have HP2 : Hid (e = withCut p k e (k + 1) ∧ li + nl t st e = nl t 0 (withCut p k e (k + 1))) := by
                  obtain ⟨h1, h2⟩ := HP.out
                  refine ⟨(withCut_new p k e).symm, ?_⟩
                  rw [withCut_new, nl_add t 0 st e (Nat.zero_le _) (by omega), h2, ← h1]
                have hli2 : li + nl t st e ≤ t.size := by
                  have := HP2.out.2
                  rw [withCut_new] at this
                  omega
                have hk2 : k + 1 ≤ t.size := by
                  have := HI3.out.cuts.mono (k + 1) (Nat.le_refl _)
                  have := HI3.out.cuts.le
                  omega
                clear hown' hgrow HI2 HP hnl2 hi hz0 hz1 hz2
                go_wp2_with fail
                go_quiet (fail)
                have HI4 : Hid (Inv t s parts w ao' (k + 1) cap' (withCut p k e) (w2.drewN nq)) := HI3.out.drewN nq
                clear HI3
                go_wp2_with fail
                go_roundg (t.size - e)
                case measure => omega
                case rel => exact ⟨ao', k + 1, cap', withCut p k e, e, li + nl t st e, q2, rfl, rfl, by go_num, rfl, rfl, HP2, by omega, hli2, hk2, HI4⟩
        · have hl' : decide ((st : Int) + (s : Int) < (t.size : Int)) = false := by simp; omega
          go_wp2_with fail
          go_meet
          exact ⟨ao, k, cap, p, st, li, rfl, rfl, rfl, HP, hst, hli, HI⟩
      · have hc' : decide ((k : Int) < parts - 1) = false := by simp; omega
        go_wp2_with fail
        go_meet
        exact ⟨ao, k, cap, p, st, li, rfl, rfl, rfl, HP, hst, hli, HI⟩
  case rest =>
    obtain ⟨ao, k, cap, p, st, li, rfl, rfl, rfl, HP, hst, hli, HI⟩ := hcut
    obtain ⟨i0, hi, hz0, hz1, hz2⟩ := info_parts Try.info43
    have hkl : k ≤ t.size := by have := HI.out.cuts.mono k (Nat.le_refl _); have := HI.out.cuts.le; omega
    have hsz := HI.out.below.size
    go_wp2_with fail
    go_region_law (first
      | (refine step_append_own rfl (.tmp 95) (.tmp 105) 40 rfl w.heap.size 43 i0 _ 3 32 Try.underlying40 hi hz0 hz1 hz2 rfl (by decide) (.slice ao k cap) k (cellsOf t p k) (by simp [Act.eval]) (HI.out.own.alloc _).drew ⟨wc.heap.size, 0, none⟩ 1 1 [.string (t.extract st t.size), .int .i64 li, .int .i64 (nl t st t.size)] (by simp [Act.eval]) rfl (three_cells_drew _ _ _ _ _) (three_one _ _ _) (by unfold maxLen; omega) (by omega) (by simp; omega) ?_; intro v' w' hown' hgrow)
      | (go_simp; go_at_call 28; refine (count_nl t st t.size _).mono ?_; rintro e w' ⟨rfl, rfl⟩))
    have HD : Hid (CutPost t s parts w (.returned v') w') := cut_done HI.out HP.out _ hown' hgrow
    clear hown' hgrow HI HP
    go_wp2_with fail
    go_ret
    exact HD.out
end Go.Proofs.Qxb6001224a
