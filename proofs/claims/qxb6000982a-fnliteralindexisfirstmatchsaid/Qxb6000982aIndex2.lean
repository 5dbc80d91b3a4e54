import Derived.Test.Qxb6000982aIndex
namespace Go.Proofs.Qxb6000982a
open Go.RowKit Go.ChangeShapes
set_option linter.unusedVariables false
set_option linter.unusedSimpArgs false

set_option maxHeartbeats 4000000 in
theorem index_plain (w : World) (l bt bs n m e a : Nat) (T S : Nat → Int) (hn : n ≤ 4096) (hm : m ≤ 65536) (ha : a < n) (hem : e ≤ m) (hae : a < e) (HE : Hid (e + n = m + a + 1)) (hL : Hid (Lit3 w l bt n false a)) (hT : Hid (Bytes w bt 0 n T)) (hS : Hid (Bytes w bs 0 m S)) (ht : Hid (∀ j, 0 ≤ T j ∧ T j ≤ 255)) (hb : Hid (∀ j, 0 ≤ S j ∧ S j ≤ 255))
    (hup : Hid (false = true → ¬ (65 ≤ T a ∧ T a ≤ 90))) (c : Int) (hcT : Hid (c = T a)) (hc0 : 0 ≤ c) (hc255 : c ≤ 255) :
    Calls Try.prog 24 #[.pointer (some ⟨l, 0, none⟩), .slice (some ⟨bs, 0, none⟩) m m] w (IxPost T S n m false w) := by
  have c0 := hL.out.c0
  have c1 := hL.out.c1
  have c2 := hL.out.c2
  have h1 := hT.out a ha
  rw [Nat.zero_add, ← hcT.out] at h1
  have hme : (m : Int) - (n : Int) + (a : Int) + 1 = (e : Int) := by have := HE.out; omega
  go_enter Try.func24, Try.ntmps24
  go_wp2
  go_quiet (fail)
  go_wp2
  clear h1 hme
  go_loopg [9, 10, 11] (e - a) (fun g sA sB i wr => ∃ (k : Nat) (A B : Int), a ≤ k ∧ k ≤ e ∧ g = e - k ∧ i = .int .i64 k ∧ sA = .int .i64 A ∧ sB = .int .i64 B ∧ Hid (Ahead S k e c A) ∧ Hid (Ahead S k e c B) ∧ Hid (∃ d, wr = w.drewN d) ∧ Hid (∀ i, i + a < k → ¬ Match T n false S i))
  case atStart => exact ⟨a, -1, -1, Nat.le_refl _, by omega, rfl, rfl, rfl, rfl, .inl ⟨by omega, by omega⟩, .inl ⟨by omega, by omega⟩, ⟨nq, rfl⟩, fun i h => by omega⟩
  case round =>
    obtain ⟨k, A, B, hak, hke, rfl, rfl, rfl, rfl, HA, HB, HW, HM⟩ := hrel
    have hcw : ∀ a, wr.cell? a = w.cell? a := fun a => by obtain ⟨d, rfl⟩ := HW.out; rfl
    have c0' := (hcw _).trans c0
    have c1' := (hcw _).trans c1
    have c2' := (hcw _).trans c2
    clear c0 c1 c2 hcw
    by_cases hlt : k < e
    · obtain ⟨r1, R1⟩ := ib_exists S hb.out c ⟨by omega, by omega⟩ k e hke
      obtain ⟨r2, R2⟩ := ib_exists S hb.out c ⟨by omega, by omega⟩ k e hke
      have hA : (A < k) ∨ A = r1 := by
        rcases HA.out with h | ⟨r, rfl, h⟩
        · exact .inl h.2
        · exact .inr (by rw [h.unique R1])
      have hB : (B < k) ∨ B = r2 := by
        rcases HB.out with h | ⟨r, rfl, h⟩
        · exact .inl h.2
        · exact .inr (by rw [h.unique R2])
      obtain rfl : r1 = r2 := R1.unique R2
      have g1 := R1.ge
      have g2 := R1.le
      have HR1 : Hid (IB S k e c r1) := R1
      have HR2 : Hid (IB S k e c r1) := R2
      have HAB : Hid ((A < k ∨ A = r1) ∧ (B < k ∨ B = r1)) := ⟨hA, hB⟩
      clear R1 R2 hA hB HA HB
      go_upto_if 63 with (fail)
      go_cut [9] (fun s9 wx => s9 = .int .i64 r1 ∧ wr = wx)
      case first =>
        rcases HAB.out.1 with hA | rfl
        · go_wp2_with (go_at_call 27; refine (ibf_at _ w HW bs e m k r1 c S hlt hem hm hS hb (by omega) (by omega) HR1).mono ?_; rintro x w' ⟨rfl, rfl⟩)
          go_meet
          exact ⟨rfl, rfl⟩
        · go_wp2
          go_meet
          exact ⟨rfl, rfl⟩
      case rest =>
        obtain ⟨rfl, rfl⟩ := hcut
        go_upto_if 72 with (fail)
        go_cut [10] (fun s10 wx => s10 = .int .i64 r1 ∧ wr = wx)
        case first =>
          rcases HAB.out.2 with hB | rfl
          · go_wp2_with fail
            go_meet
            exact ⟨rfl, rfl⟩
          · go_wp2_with fail
            go_meet
            exact ⟨rfl, rfl⟩
        case rest =>
          obtain ⟨rfl, rfl⟩ := hcut
          have HB2 : Hid (∀ q : Nat, q ≤ r1 → q ≤ r1 → ∀ i, i + a < q → ¬ Match T n false S i) := fun q h1 h2 => no_between ha hup.out (by rw [← hcT.out]; exact HR1.out) (by rw [← hcT.out, otherOf, if_neg (by simp)]; exact HR2.out) HM.out q h1 h2
          clear HM HAB
          by_cases hq : r1 = e
          · have hmin : (r1 : Int) = (e : Int) := by omega
            have HF : Hid (First T n false S m (-1)) := .inl ⟨rfl, fun i hi => HB2.out e (by omega) (by omega) i (by have := HE.out; omega)⟩
            clear hq HB2
            go_wp2
            go_ret
            exact ⟨⟨-1, rfl, HF.out⟩, HW.out⟩
          · obtain ⟨st, hst⟩ : ∃ st : Nat, r1 = st + a := ⟨r1 - a, by omega⟩
            have hmin : (r1 : Int) = (st : Int) + (a : Int) := by omega
            have hne : ((st : Int) + (a : Int) == (e : Int)) = false := by simp; omega
            have hsub : (st : Int) + (a : Int) - (a : Int) = (st : Int) := by omega
            have hs1 : st + n ≤ m := by have := HE.out; omega
            have hs2 : k ≤ st + a := by omega
            have hs3 : st + a < e := by omega
            have A1 : Hid (Ahead S (st + a + 1) e c ((st : Int) + (a : Int))) := by rw [← hmin]; exact Ahead.next HR1.out hs2 (by omega)
            have A2 : Hid (Ahead S (st + a + 1) e c ((st : Int) + (a : Int))) := by rw [← hmin]; exact Ahead.next HR2.out hs2 (by omega)
            have HM' : Hid (∀ i, i < st → ¬ Match T n false S i) := fun i hi => HB2.out (st + a) (by omega) (by omega) i (by omega)
            clear hq HB2 hst
            by_cases hq : Match T n false S st
            · have HF : Hid (First T n false S m (st : Int)) := .inr ⟨st, rfl, hs1, hq, HM'.out⟩
              have HQ : Hid (true = true ↔ Match T n false S st) := ⟨fun _ => hq, fun _ => rfl⟩
              clear hq HM'
              go_wp2_with (go_at_call 28; refine (equal_at _ w HW l bt bs n m st _ a false T S hn hm hs1 hL hT hS ht hb true HQ).mono ?_; rintro x w' ⟨rfl, hw'⟩)
              go_ret
              exact ⟨⟨_, rfl, HF.out⟩, hw'.out⟩
            · have HQ : Hid (false = true ↔ Match T n false S st) := ⟨fun h => by simp at h, fun h => absurd h hq⟩
              have HM'' : Hid (∀ i, i + a < st + a + 1 → ¬ Match T n false S i) := fun i hi => by
                by_cases e' : i = st
                · subst e'; exact hq
                · exact HM'.out i (by omega)
              clear hq HM'
              go_wp2_with (go_at_call 28; refine (equal_at _ w HW l bt bs n m st _ a false T S hn hm hs1 hL hT hS ht hb false HQ).mono ?_; rintro x w' ⟨rfl, hw'⟩)
              go_roundg (e - (st + a + 1))
              case measure => omega
              case rel => exact ⟨st + a + 1, (st : Int) + (a : Int), (st : Int) + (a : Int), by omega, by omega, rfl, by go_num, rfl, rfl, A1, A2, hw', HM''⟩
    · have HF : Hid (First T n false S m (-1)) := .inl ⟨rfl, fun i hi => HM.out i (by have := HE.out; omega)⟩
      go_wp2
      go_ret
      exact ⟨⟨-1, rfl, HF.out⟩, HW.out⟩

set_option maxHeartbeats 4000000 in
theorem index_lo (w : World) (l bt bs n m e a : Nat) (T S : Nat → Int) (hn : n ≤ 4096) (hm : m ≤ 65536) (ha : a < n) (hem : e ≤ m) (hae : a < e) (HE : Hid (e + n = m + a + 1)) (hL : Hid (Lit3 w l bt n true a)) (hT : Hid (Bytes w bt 0 n T)) (hS : Hid (Bytes w bs 0 m S)) (ht : Hid (∀ j, 0 ≤ T j ∧ T j ≤ 255)) (hb : Hid (∀ j, 0 ≤ S j ∧ S j ≤ 255))
    (hup : Hid (true = true → ¬ (65 ≤ T a ∧ T a ≤ 90))) (c : Int) (hcT : Hid (c = T a)) (hc0 : 0 ≤ c) (hc255 : c ≤ 255) (hc97 : c < 97) :
    Calls Try.prog 24 #[.pointer (some ⟨l, 0, none⟩), .slice (some ⟨bs, 0, none⟩) m m] w (IxPost T S n m true w) := by
  have c0 := hL.out.c0
  have c1 := hL.out.c1
  have c2 := hL.out.c2
  have h1 := hT.out a ha
  rw [Nat.zero_add, ← hcT.out] at h1
  have hme : (m : Int) - (n : Int) + (a : Int) + 1 = (e : Int) := by have := HE.out; omega
  have hd97 : decide (97 ≤ c) = false := by simp; omega
  go_enter Try.func24, Try.ntmps24
  go_wp2
  go_quiet (fail)
  go_wp2
  clear h1 hme
  go_loopg [9, 10, 11] (e - a) (fun g sA sB i wr => ∃ (k : Nat) (A B : Int), a ≤ k ∧ k ≤ e ∧ g = e - k ∧ i = .int .i64 k ∧ sA = .int .i64 A ∧ sB = .int .i64 B ∧ Hid (Ahead S k e c A) ∧ Hid (Ahead S k e c B) ∧ Hid (∃ d, wr = w.drewN d) ∧ Hid (∀ i, i + a < k → ¬ Match T n true S i))
  case atStart => exact ⟨a, -1, -1, Nat.le_refl _, by omega, rfl, rfl, rfl, rfl, .inl ⟨by omega, by omega⟩, .inl ⟨by omega, by omega⟩, ⟨nq, rfl⟩, fun i h => by omega⟩
  case round =>
    obtain ⟨k, A, B, hak, hke, rfl, rfl, rfl, rfl, HA, HB, HW, HM⟩ := hrel
    have hcw : ∀ a, wr.cell? a = w.cell? a := fun a => by obtain ⟨d, rfl⟩ := HW.out; rfl
    have c0' := (hcw _).trans c0
    have c1' := (hcw _).trans c1
    have c2' := (hcw _).trans c2
    clear c0 c1 c2 hcw
    by_cases hlt : k < e
    · obtain ⟨r1, R1⟩ := ib_exists S hb.out c ⟨by omega, by omega⟩ k e hke
      obtain ⟨r2, R2⟩ := ib_exists S hb.out c ⟨by omega, by omega⟩ k e hke
      have hA : (A < k) ∨ A = r1 := by
        rcases HA.out with h | ⟨r, rfl, h⟩
        · exact .inl h.2
        · exact .inr (by rw [h.unique R1])
      have hB : (B < k) ∨ B = r2 := by
        rcases HB.out with h | ⟨r, rfl, h⟩
        · exact .inl h.2
        · exact .inr (by rw [h.unique R2])
      obtain rfl : r1 = r2 := R1.unique R2
      have g1 := R1.ge
      have g2 := R1.le
      have HR1 : Hid (IB S k e c r1) := R1
      have HR2 : Hid (IB S k e c r1) := R2
      have HAB : Hid ((A < k ∨ A = r1) ∧ (B < k ∨ B = r1)) := ⟨hA, hB⟩
      clear R1 R2 hA hB HA HB
      go_upto_if 63 with (fail)
      go_cut [9] (fun s9 wx => s9 = .int .i64 r1 ∧ wr = wx)
      case first =>
        rcases HAB.out.1 with hA | rfl
        · go_wp2_with (go_at_call 27; refine (ibf_at _ w HW bs e m k r1 c S hlt hem hm hS hb (by omega) (by omega) HR1).mono ?_; rintro x w' ⟨rfl, rfl⟩)
          go_meet
          exact ⟨rfl, rfl⟩
        · go_wp2
          go_meet
          exact ⟨rfl, rfl⟩
      case rest =>
        obtain ⟨rfl, rfl⟩ := hcut
        go_upto_if 72 with (fail)
        go_cut [10] (fun s10 wx => s10 = .int .i64 r1 ∧ wr = wx)
        case first =>
          rcases HAB.out.2 with hB | rfl
          · go_wp2_with fail
            go_meet
            exact ⟨rfl, rfl⟩
          · go_wp2_with fail
            go_meet
            exact ⟨rfl, rfl⟩
        case rest =>
          obtain ⟨rfl, rfl⟩ := hcut
          have HB2 : Hid (∀ q : Nat, q ≤ r1 → q ≤ r1 → ∀ i, i + a < q → ¬ Match T n true S i) := fun q h1 h2 => no_between ha (fun _ => hup.out (by simp)) (by rw [← hcT.out]; exact HR1.out) (by rw [← hcT.out, otherOf, if_neg (by omega)]; exact HR2.out) HM.out q h1 h2
          clear HM HAB
          by_cases hq : r1 = e
          · have hmin : (r1 : Int) = (e : Int) := by omega
            have HF : Hid (First T n true S m (-1)) := .inl ⟨rfl, fun i hi => HB2.out e (by omega) (by omega) i (by have := HE.out; omega)⟩
            clear hq HB2
            go_wp2
            go_ret
            exact ⟨⟨-1, rfl, HF.out⟩, HW.out⟩
          · obtain ⟨st, hst⟩ : ∃ st : Nat, r1 = st + a := ⟨r1 - a, by omega⟩
            have hmin : (r1 : Int) = (st : Int) + (a : Int) := by omega
            have hne : ((st : Int) + (a : Int) == (e : Int)) = false := by simp; omega
            have hsub : (st : Int) + (a : Int) - (a : Int) = (st : Int) := by omega
            have hs1 : st + n ≤ m := by have := HE.out; omega
            have hs2 : k ≤ st + a := by omega
            have hs3 : st + a < e := by omega
            have A1 : Hid (Ahead S (st + a + 1) e c ((st : Int) + (a : Int))) := by rw [← hmin]; exact Ahead.next HR1.out hs2 (by omega)
            have A2 : Hid (Ahead S (st + a + 1) e c ((st : Int) + (a : Int))) := by rw [← hmin]; exact Ahead.next HR2.out hs2 (by omega)
            have HM' : Hid (∀ i, i < st → ¬ Match T n true S i) := fun i hi => HB2.out (st + a) (by omega) (by omega) i (by omega)
            clear hq HB2 hst
            by_cases hq : Match T n true S st
            · have HF : Hid (First T n true S m (st : Int)) := .inr ⟨st, rfl, hs1, hq, HM'.out⟩
              have HQ : Hid (true = true ↔ Match T n true S st) := ⟨fun _ => hq, fun _ => rfl⟩
              clear hq HM'
              go_wp2_with (go_at_call 28; refine (equal_at _ w HW l bt bs n m st _ a true T S hn hm hs1 hL hT hS ht hb true HQ).mono ?_; rintro x w' ⟨rfl, hw'⟩)
              go_ret
              exact ⟨⟨_, rfl, HF.out⟩, hw'.out⟩
            · have HQ : Hid (false = true ↔ Match T n true S st) := ⟨fun h => by simp at h, fun h => absurd h hq⟩
              have HM'' : Hid (∀ i, i + a < st + a + 1 → ¬ Match T n true S i) := fun i hi => by
                by_cases e' : i = st
                · subst e'; exact hq
                · exact HM'.out i (by omega)
              clear hq HM'
              go_wp2_with (go_at_call 28; refine (equal_at _ w HW l bt bs n m st _ a true T S hn hm hs1 hL hT hS ht hb false HQ).mono ?_; rintro x w' ⟨rfl, hw'⟩)
              go_roundg (e - (st + a + 1))
              case measure => omega
              case rel => exact ⟨st + a + 1, (st : Int) + (a : Int), (st : Int) + (a : Int), by omega, by omega, rfl, by go_num, rfl, rfl, A1, A2, hw', HM''⟩
    · have HF : Hid (First T n true S m (-1)) := .inl ⟨rfl, fun i hi => HM.out i (by have := HE.out; omega)⟩
      go_wp2
      go_ret
      exact ⟨⟨-1, rfl, HF.out⟩, HW.out⟩

set_option maxHeartbeats 4000000 in
theorem index_hi (w : World) (l bt bs n m e a : Nat) (T S : Nat → Int) (hn : n ≤ 4096) (hm : m ≤ 65536) (ha : a < n) (hem : e ≤ m) (hae : a < e) (HE : Hid (e + n = m + a + 1)) (hL : Hid (Lit3 w l bt n true a)) (hT : Hid (Bytes w bt 0 n T)) (hS : Hid (Bytes w bs 0 m S)) (ht : Hid (∀ j, 0 ≤ T j ∧ T j ≤ 255)) (hb : Hid (∀ j, 0 ≤ S j ∧ S j ≤ 255))
    (hup : Hid (true = true → ¬ (65 ≤ T a ∧ T a ≤ 90))) (c : Int) (hcT : Hid (c = T a)) (hc0 : 0 ≤ c) (hc255 : c ≤ 255) (hc122 : 122 < c) :
    Calls Try.prog 24 #[.pointer (some ⟨l, 0, none⟩), .slice (some ⟨bs, 0, none⟩) m m] w (IxPost T S n m true w) := by
  have c0 := hL.out.c0
  have c1 := hL.out.c1
  have c2 := hL.out.c2
  have h1 := hT.out a ha
  rw [Nat.zero_add, ← hcT.out] at h1
  have hme : (m : Int) - (n : Int) + (a : Int) + 1 = (e : Int) := by have := HE.out; omega
  have hd122 : decide (c ≤ 122) = false := by simp; omega
  go_enter Try.func24, Try.ntmps24
  go_wp2
  go_quiet (fail)
  go_wp2
  clear h1 hme
  go_loopg [9, 10, 11] (e - a) (fun g sA sB i wr => ∃ (k : Nat) (A B : Int), a ≤ k ∧ k ≤ e ∧ g = e - k ∧ i = .int .i64 k ∧ sA = .int .i64 A ∧ sB = .int .i64 B ∧ Hid (Ahead S k e c A) ∧ Hid (Ahead S k e c B) ∧ Hid (∃ d, wr = w.drewN d) ∧ Hid (∀ i, i + a < k → ¬ Match T n true S i))
  case atStart => exact ⟨a, -1, -1, Nat.le_refl _, by omega, rfl, rfl, rfl, rfl, .inl ⟨by omega, by omega⟩, .inl ⟨by omega, by omega⟩, ⟨nq, rfl⟩, fun i h => by omega⟩
  case round =>
    obtain ⟨k, A, B, hak, hke, rfl, rfl, rfl, rfl, HA, HB, HW, HM⟩ := hrel
    have hcw : ∀ a, wr.cell? a = w.cell? a := fun a => by obtain ⟨d, rfl⟩ := HW.out; rfl
    have c0' := (hcw _).trans c0
    have c1' := (hcw _).trans c1
    have c2' := (hcw _).trans c2
    clear c0 c1 c2 hcw
    by_cases hlt : k < e
    · obtain ⟨r1, R1⟩ := ib_exists S hb.out c ⟨by omega, by omega⟩ k e hke
      obtain ⟨r2, R2⟩ := ib_exists S hb.out c ⟨by omega, by omega⟩ k e hke
      have hA : (A < k) ∨ A = r1 := by
        rcases HA.out with h | ⟨r, rfl, h⟩
        · exact .inl h.2
        · exact .inr (by rw [h.unique R1])
      have hB : (B < k) ∨ B = r2 := by
        rcases HB.out with h | ⟨r, rfl, h⟩
        · exact .inl h.2
        · exact .inr (by rw [h.unique R2])
      obtain rfl : r1 = r2 := R1.unique R2
      have g1 := R1.ge
      have g2 := R1.le
      have HR1 : Hid (IB S k e c r1) := R1
      have HR2 : Hid (IB S k e c r1) := R2
      have HAB : Hid ((A < k ∨ A = r1) ∧ (B < k ∨ B = r1)) := ⟨hA, hB⟩
      clear R1 R2 hA hB HA HB
      go_upto_if 63 with (fail)
      go_cut [9] (fun s9 wx => s9 = .int .i64 r1 ∧ wr = wx)
      case first =>
        rcases HAB.out.1 with hA | rfl
        · go_wp2_with (go_at_call 27; refine (ibf_at _ w HW bs e m k r1 c S hlt hem hm hS hb (by omega) (by omega) HR1).mono ?_; rintro x w' ⟨rfl, rfl⟩)
          go_meet
          exact ⟨rfl, rfl⟩
        · go_wp2
          go_meet
          exact ⟨rfl, rfl⟩
      case rest =>
        obtain ⟨rfl, rfl⟩ := hcut
        go_upto_if 72 with (fail)
        go_cut [10] (fun s10 wx => s10 = .int .i64 r1 ∧ wr = wx)
        case first =>
          rcases HAB.out.2 with hB | rfl
          · go_wp2_with fail
            go_meet
            exact ⟨rfl, rfl⟩
          · go_wp2_with fail
            go_meet
            exact ⟨rfl, rfl⟩
        case rest =>
          obtain ⟨rfl, rfl⟩ := hcut
          have HB2 : Hid (∀ q : Nat, q ≤ r1 → q ≤ r1 → ∀ i, i + a < q → ¬ Match T n true S i) := fun q h1 h2 => no_between ha (fun _ => hup.out (by simp)) (by rw [← hcT.out]; exact HR1.out) (by rw [← hcT.out, otherOf, if_neg (by omega)]; exact HR2.out) HM.out q h1 h2
          clear HM HAB
          by_cases hq : r1 = e
          · have hmin : (r1 : Int) = (e : Int) := by omega
            have HF : Hid (First T n true S m (-1)) := .inl ⟨rfl, fun i hi => HB2.out e (by omega) (by omega) i (by have := HE.out; omega)⟩
            clear hq HB2
            go_wp2
            go_ret
            exact ⟨⟨-1, rfl, HF.out⟩, HW.out⟩
          · obtain ⟨st, hst⟩ : ∃ st : Nat, r1 = st + a := ⟨r1 - a, by omega⟩
            have hmin : (r1 : Int) = (st : Int) + (a : Int) := by omega
            have hne : ((st : Int) + (a : Int) == (e : Int)) = false := by simp; omega
            have hsub : (st : Int) + (a : Int) - (a : Int) = (st : Int) := by omega
            have hs1 : st + n ≤ m := by have := HE.out; omega
            have hs2 : k ≤ st + a := by omega
            have hs3 : st + a < e := by omega
            have A1 : Hid (Ahead S (st + a + 1) e c ((st : Int) + (a : Int))) := by rw [← hmin]; exact Ahead.next HR1.out hs2 (by omega)
            have A2 : Hid (Ahead S (st + a + 1) e c ((st : Int) + (a : Int))) := by rw [← hmin]; exact Ahead.next HR2.out hs2 (by omega)
            have HM' : Hid (∀ i, i < st → ¬ Match T n true S i) := fun i hi => HB2.out (st + a) (by omega) (by omega) i (by omega)
            clear hq HB2 hst
            by_cases hq : Match T n true S st
            · have HF : Hid (First T n true S m (st : Int)) := .inr ⟨st, rfl, hs1, hq, HM'.out⟩
              have HQ : Hid (true = true ↔ Match T n true S st) := ⟨fun _ => hq, fun _ => rfl⟩
              clear hq HM'
              go_wp2_with (go_at_call 28; refine (equal_at _ w HW l bt bs n m st _ a true T S hn hm hs1 hL hT hS ht hb true HQ).mono ?_; rintro x w' ⟨rfl, hw'⟩)
              go_ret
              exact ⟨⟨_, rfl, HF.out⟩, hw'.out⟩
            · have HQ : Hid (false = true ↔ Match T n true S st) := ⟨fun h => by simp at h, fun h => absurd h hq⟩
              have HM'' : Hid (∀ i, i + a < st + a + 1 → ¬ Match T n true S i) := fun i hi => by
                by_cases e' : i = st
                · subst e'; exact hq
                · exact HM'.out i (by omega)
              clear hq HM'
              go_wp2_with (go_at_call 28; refine (equal_at _ w HW l bt bs n m st _ a true T S hn hm hs1 hL hT hS ht hb false HQ).mono ?_; rintro x w' ⟨rfl, hw'⟩)
              go_roundg (e - (st + a + 1))
              case measure => omega
              case rel => exact ⟨st + a + 1, (st : Int) + (a : Int), (st : Int) + (a : Int), by omega, by omega, rfl, by go_num, rfl, rfl, A1, A2, hw', HM''⟩
    · have HF : Hid (First T n true S m (-1)) := .inl ⟨rfl, fun i hi => HM.out i (by have := HE.out; omega)⟩
      go_wp2
      go_ret
      exact ⟨⟨-1, rfl, HF.out⟩, HW.out⟩
end Go.Proofs.Qxb6000982a
