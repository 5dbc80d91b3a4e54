import Derived.Test.Qxb6000982aNaive
namespace Go.Proofs.Qxb6000982a
open Go.RowKit Go.ChangeShapes
set_option linter.unusedVariables false
set_option linter.unusedSimpArgs false

theorem naive_short (w : World) (bt n m : Nat) (a : Option Addr) (fold : Bool) (hn : n ≤ 4096) (hm : m ≤ 65536) (hlt : m < n) :
    Calls Try.prog 13 #[.slice (some ⟨bt, 0, none⟩) n n, .bool fold, .slice a m m] w fun e w' => e = .returned (.int .i64 (-1)) ∧ w' = w := by
  go_enter Try.func13, Try.ntmps13
  go_wp2
  go_loopg [8] 0 (fun g i wr => i = .int .i64 0 ∧ wr = w)
  case atStart => exact ⟨rfl, rfl⟩
  case round =>
    obtain ⟨rfl, rfl⟩ := hrel
    go_wp2
    go_ret
    exact ⟨rfl, rfl⟩

theorem match_step {T S : Nat → Int} {fold : Bool} {k j : Nat} (h : Hid (∀ j', j' < j → eff fold (S (k + j')) = T j')) (e : eff fold (S (k + j)) = T j) : Hid (∀ j', j' < j + 1 → eff fold (S (k + j')) = T j') := by
  intro j' hj
  by_cases e' : j' = j
  · subst e'; exact e
  · exact h.out j' (by omega)

theorem miss_step {T S : Nat → Int} {n : Nat} {fold : Bool} {k : Nat} (h : Hid (∀ i', i' < k → ¬ Match T n fold S i')) (e : ¬ Match T n fold S k) : Hid (∀ i', i' < k + 1 → ¬ Match T n fold S i') := by
  intro j' hj
  by_cases e' : j' = k
  · subst e'; exact e
  · exact h.out j' (by omega)

set_option maxHeartbeats 1000000 in
theorem naive_long (w : World) (bt bs n m : Nat) (T S : Nat → Int) (fold : Bool) (hn : n ≤ 4096) (hm : m ≤ 65536) (hnm : n ≤ m) (hT : Hid (Bytes w bt 0 n T)) (hS : Hid (Bytes w bs 0 m S)) (hb : Hid (∀ j, 0 ≤ S j ∧ S j ≤ 255)) :
    Calls Try.prog 13 #[.slice (some ⟨bt, 0, none⟩) n n, .bool fold, .slice (some ⟨bs, 0, none⟩) m m] w fun e w' => (∃ r : Int, e = .returned (.int .i64 r) ∧ First T n fold S m r) ∧ w' = w := by
  have hT' : Hid (∀ j, j < n → w.cell? ⟨bt, j, none⟩ = some (.int .u8 (T j))) := fun j hj => by have := hT.out j hj; rwa [Nat.zero_add] at this
  have hS' : Hid (∀ j, j < m → w.cell? ⟨bs, j, none⟩ = some (.int .u8 (S j))) := fun j hj => by have := hS.out j hj; rwa [Nat.zero_add] at this
  clear hT hS
  go_enter Try.func13, Try.ntmps13
  go_wp2
  go_loopg [8] (m + 1) (fun g i wr => ∃ k : Nat, k + n ≤ m + 1 ∧ g = m + 1 - k ∧ i = .int .i64 k ∧ w = wr ∧ Hid (∀ i', i' < k → ¬ Match T n fold S i'))
  case atStart => exact ⟨0, by omega, rfl, rfl, rfl, fun j hj => by omega⟩
  case round =>
    obtain ⟨k, hk, rfl, rfl, rfl, HM⟩ := hrel
    by_cases hlt : k + n ≤ m
    · have hd0 : decide ((k : Int) + (n : Int) ≤ (m : Int)) = true := by simp; omega
      go_wp2
      go_loopg [9, 10] n (fun g ok j wr => ∃ jj : Nat, jj ≤ n ∧ g = n - jj ∧ ok = .bool true ∧ j = .int .i64 jj ∧ w = wr ∧ Hid (∀ j', j' < jj → eff fold (S (k + j')) = T j'))
      case atStart => exact ⟨0, by omega, rfl, rfl, rfl, rfl, fun j hj => by omega⟩
      case round =>
        obtain ⟨jj, hjj, rfl, rfl, rfl, rfl, HJ⟩ := hrel
        by_cases hjn : jj < n
        · have c1 := hT'.out jj hjn
          have c2 := hS'.out (k + jj) (by omega)
          have hr := hb.out (k + jj)
          obtain ⟨t, ht⟩ : ∃ t, t = T jj := ⟨_, rfl⟩
          obtain ⟨s, hs⟩ : ∃ s, s = S (k + jj) := ⟨_, rfl⟩
          rw [← ht] at c1
          rw [← hs] at c2 hr
          have HT : Hid (t = T jj) := ht
          have HS : Hid (s = S (k + jj)) := hs
          clear ht hs
          obtain ⟨hr0, hr1⟩ := hr
          by_cases he : eff fold s = t
          · have HJ' := match_step HJ (by rw [← HS.out, ← HT.out]; exact he)
            cases fold with
            | false =>
              rw [eff_false] at he
              subst he
              clear HJ HT HS hT' hS' hb HM
              go_wp2
              go_roundg (n - (jj + 1))
              case measure => omega
              case rel => exact ⟨jj + 1, by omega, rfl, rfl, by go_num, rfl, HJ'⟩
            | true =>
              rw [eff_true] at he
              subst he
              clear HJ HT HS hT' hS' hb HM
              go_wp2_with (go_at_call 16; refine (lower_any _ _ hr0 hr1).mono ?_; rintro e w' ⟨rfl, rfl⟩)
              go_roundg (n - (jj + 1))
              case measure => omega
              case rel => exact ⟨jj + 1, by omega, rfl, rfl, by go_num, rfl, HJ'⟩
          · have HM' := miss_step HM (fun h => he (by rw [HS.out, HT.out]; exact h jj hjn))
            cases fold with
            | false =>
              rw [eff_false] at he
              have hd : (s != t) = true := by simpa using he
              clear HJ HT HS hT' hS' hb HM he
              go_wp2
              go_roundg (m + 1 - (k + 1))
              case measure => omega
              case rel => exact ⟨k + 1, by omega, rfl, by go_num, rfl, HM'⟩
            | true =>
              rw [eff_true] at he
              have hd : (low s != t) = true := by simpa using he
              clear HJ HT HS hT' hS' hb HM he
              go_wp2_with (go_at_call 16; refine (lower_any _ _ hr0 hr1).mono ?_; rintro e w' ⟨rfl, rfl⟩)
              go_roundg (m + 1 - (k + 1))
              case measure => omega
              case rel => exact ⟨k + 1, by omega, rfl, by go_num, rfl, HM'⟩
        · have e : jj = n := by omega
          have HF : Hid (First T n fold S m (k : Int)) := .inr ⟨k, rfl, hlt, fun j hj => HJ.out j (by omega), HM.out⟩
          clear HJ hT' hS' hb HM
          go_wp2_with fail
          go_ret
          exact ⟨⟨_, rfl, HF.out⟩, rfl⟩
    · have HF : Hid (First T n fold S m (-1)) := .inl ⟨rfl, fun i hi => HM.out i (by omega)⟩
      go_wp2
      go_ret
      exact ⟨⟨-1, rfl, HF.out⟩, rfl⟩
end Go.Proofs.Qxb6000982a
