import Derived.Test.Qxb6000982aEqual
import Derived.Deep.DeepCutAuto
namespace Go.Proofs.Qxb6000982a
open Go.RowKit Go.ChangeShapes
set_option linter.unusedVariables false
set_option linter.unusedSimpArgs false

theorem equal_any (w : World) (l bt bs n m st cp a : Nat) (fold : Bool) (T S : Nat → Int) (hn : n ≤ 4096) (hm : m ≤ 65536) (hst : st + n ≤ m) (hL : Hid (Lit3 w l bt n fold a)) (hT : Hid (Bytes w bt 0 n T)) (hS : Hid (Bytes w bs 0 m S)) (ht : Hid (∀ j, 0 ≤ T j ∧ T j ≤ 255)) (hb : Hid (∀ j, 0 ≤ S j ∧ S j ≤ 255)) :
    Calls Try.prog 28 #[.pointer (some ⟨l, 0, none⟩), .slice (some ⟨bs, st, none⟩) n cp] w (EqPost T S n fold st w) := by
  cases fold with
  | false => exact equal_false w l bt bs n m st cp a T S hn hm hst hL hT hS ht hb
  | true => exact equal_true w l bt bs n m st cp a T S hn hm hst hL hT hS ht hb

theorem ib_exists (S : Nat → Int) (hS : ∀ j, 0 ≤ S j ∧ S j ≤ 255) (c : Int) (hc : 0 ≤ c ∧ c ≤ 255) (i e : Nat) (h : i ≤ e) : ∃ r, IB S i e c r := by
  have := ib_plain S hS c hc i (e - i)
  rw [show i + (e - i) = e by omega] at this
  rcases this with ⟨_, h⟩ | ⟨o, _, _, h⟩
  · exact ⟨_, h⟩
  · exact ⟨_, h⟩
theorem IB.unique {S : Nat → Int} {i e : Nat} {c : Int} {r q : Nat} (h : IB S i e c r) (k : IB S i e c q) : r = q := by
  have h1 : ¬ r < q := fun hlt => k.no r h.ge hlt (h.yes (by have := k.le; omega))
  have h2 : ¬ q < r := fun hlt => h.no q k.ge hlt (k.yes (by have := h.le; omega))
  omega

/-- What index knows of 'at' at a round's head: it lies behind, or it is the next place. -/
def Ahead (S : Nat → Int) (k e : Nat) (c : Int) (A : Int) : Prop := (-1 ≤ A ∧ A < k) ∨ ∃ r : Nat, A = r ∧ IB S k e c r

theorem Ahead.next {S : Nat → Int} {k e : Nat} {c : Int} {r q : Nat} (h : IB S k e c r) (hq : k ≤ q) (hr : q ≤ r) : Ahead S (q + 1) e c r := by
  by_cases e' : r < q + 1
  · exact .inl ⟨by omega, by omega⟩
  · exact .inr ⟨r, rfl, by omega, h.le, fun j h1 h2 => h.no j (by omega) h2, h.yes⟩

def otherOf (fold : Bool) (c : Int) : Int := if fold = true ∧ 97 ≤ c ∧ c ≤ 122 then c - 32 else c

/-- Between the round's head and the next place there is no match. -/
theorem no_between {T S : Nat → Int} {n e k a r1 r2 : Nat} {fold : Bool} (ha : a < n) (hup : fold = true → ¬ (65 ≤ T a ∧ T a ≤ 90)) (h1 : IB S k e (T a) r1) (h2 : IB S k e (otherOf fold (T a)) r2)
    (hno : ∀ i, i + a < k → ¬ Match T n fold S i) (q : Nat) (hq1 : q ≤ r1) (hq2 : q ≤ r2) : ∀ i, i + a < q → ¬ Match T n fold S i := by
  intro i hi
  by_cases h : i + a < k
  · exact hno i h
  · exact no_match ha hup _ rfl (h1.no _ (by omega) (by omega)) (h2.no _ (by omega) (by omega))

theorem index_short (w : World) (l bt n m a : Nat) (ad : Option Addr) (fold : Bool) (T : Nat → Int) (hn : n ≤ 4096) (hm : m < n) (ha : a < n) (hL : Hid (Lit3 w l bt n fold a)) (hT : Hid (Bytes w bt 0 n T)) (ht : Hid (∀ j, 0 ≤ T j ∧ T j ≤ 255)) :
    Calls Try.prog 24 #[.pointer (some ⟨l, 0, none⟩), .slice ad m m] w fun x w' => x = .returned (.int .i64 (-1)) ∧ ∃ k, w' = w.drewN k := by
  have c0 := hL.out.c0
  have c1 := hL.out.c1
  have c2 := hL.out.c2
  have h1 := hT.out a ha
  rw [Nat.zero_add] at h1
  have hr := ht.out a
  obtain ⟨c, hc⟩ : ∃ c, c = T a := ⟨_, rfl⟩
  rw [← hc] at h1 hr
  clear hc
  obtain ⟨hr0, hr1⟩ := hr
  go_enter Try.func24, Try.ntmps24
  go_wp2
  go_quiet (fail)
  go_wp2
  all_goals
    go_loopg [11] 0 (fun g i wr => i = .int .i64 a ∧ wr = w.drewN nq)
    case atStart => exact ⟨rfl, rfl⟩
    case round =>
      obtain ⟨rfl, rfl⟩ := hrel
      go_wp2
      go_ret
      exact ⟨rfl, nq, rfl⟩

theorem ibf_at (w w0 : World) (hw : Hid (∃ d, w = w0.drewN d)) (b e m i r : Nat) (c : Int) (S : Nat → Int) (hi : i < e) (he : e ≤ m) (hm : m ≤ 65536) (hS : Hid (Bytes w0 b 0 m S)) (hb : Hid (∀ j, 0 ≤ S j ∧ S j ≤ 255)) (hc0 : 0 ≤ c) (hc1 : c ≤ 255) (hr : Hid (IB S i e c r)) :
    Calls Try.prog 27 #[.slice (some ⟨b, 0, none⟩) e m, .int .i64 i, .int .u8 c] w fun x w' => x = .returned (.int .i64 r) ∧ w' = w := by
  obtain ⟨d, rfl⟩ := hw.out
  refine (ibf_any (w0.drewN d) b e m i c S hi he hm hS hb hc0 hc1).mono ?_
  rintro x w' ⟨⟨r', rfl, h⟩, rfl⟩
  rw [h.unique hr.out]
  exact ⟨rfl, rfl⟩

theorem equal_at (w w0 : World) (hw : Hid (∃ d, w = w0.drewN d)) (l bt bs n m st cp a : Nat) (fold : Bool) (T S : Nat → Int) (hn : n ≤ 4096) (hm : m ≤ 65536) (hst : st + n ≤ m) (hL : Hid (Lit3 w0 l bt n fold a)) (hT : Hid (Bytes w0 bt 0 n T)) (hS : Hid (Bytes w0 bs 0 m S)) (ht : Hid (∀ j, 0 ≤ T j ∧ T j ≤ 255)) (hb : Hid (∀ j, 0 ≤ S j ∧ S j ≤ 255)) (q : Bool) (hq : Hid (q = true ↔ Match T n fold S st)) :
    Calls Try.prog 28 #[.pointer (some ⟨l, 0, none⟩), .slice (some ⟨bs, st, none⟩) n cp] w fun x w' => x = .returned (.bool q) ∧ Hid (∃ d, w' = w0.drewN d) := by
  obtain ⟨d, rfl⟩ := hw.out
  refine (equal_any (w0.drewN d) l bt bs n m st cp a fold T S hn hm hst ⟨hL.out.c0, hL.out.c1, hL.out.c2⟩ hT hS ht hb).mono ?_
  rintro x w' ⟨⟨r', rfl, h⟩, k, rfl⟩
  have : r' = q := by
    have := h.trans hq.out.symm
    cases r' <;> cases q <;> simp_all
  rw [this]
  exact ⟨rfl, d + k, World.drewN_drewN _ _ _⟩

def IxPost (T S : Nat → Int) (n m : Nat) (fold : Bool) (w : World) (x : Ending) (w' : World) : Prop := (∃ r : Int, x = .returned (.int .i64 r) ∧ First T n fold S m r) ∧ ∃ k, w' = w.drewN k

set_option maxHeartbeats 4000000 in
theorem index_diff (w : World) (l bt bs n m e a : Nat) (T S : Nat → Int) (hn : n ≤ 4096) (hm : m ≤ 65536) (ha : a < n) (hem : e ≤ m) (hae : a < e) (HE : Hid (e + n = m + a + 1)) (hL : Hid (Lit3 w l bt n true a)) (hT : Hid (Bytes w bt 0 n T)) (hS : Hid (Bytes w bs 0 m S)) (ht : Hid (∀ j, 0 ≤ T j ∧ T j ≤ 255)) (hb : Hid (∀ j, 0 ≤ S j ∧ S j ≤ 255))
    (hup : Hid (¬ (65 ≤ T a ∧ T a ≤ 90))) (c : Int) (hcT : Hid (c = T a)) (hc97 : 97 ≤ c) (hc122 : c ≤ 122) :
    Calls Try.prog 24 #[.pointer (some ⟨l, 0, none⟩), .slice (some ⟨bs, 0, none⟩) m m] w (IxPost T S n m true w) := by
  have c0 := hL.out.c0
  have c1 := hL.out.c1
  have c2 := hL.out.c2
  have h1 := hT.out a ha
  rw [Nat.zero_add, ← hcT.out] at h1
  have hme : (m : Int) - (n : Int) + (a : Int) + 1 = (e : Int) := by have := HE.out; omega
  go_enter Try.func24, Try.ntmps24
  go_wp2
  go_quiet (fail)
  go_wp2
  clear h1 hme
  go_loopg [9, 10, 11] (e - a) (fun g sA sB i wr => ∃ (k : Nat) (A B : Int), a ≤ k ∧ k ≤ e ∧ g = e - k ∧ i = .int .i64 k ∧ sA = .int .i64 A ∧ sB = .int .i64 B ∧ Hid (Ahead S k e c A) ∧ Hid (Ahead S k e (c - 32) B) ∧ Hid (∃ d, wr = w.drewN d) ∧ Hid (∀ i, i + a < k → ¬ Match T n true S i))
  case atStart => exact ⟨a, -1, -1, Nat.le_refl _, by omega, rfl, rfl, rfl, rfl, .inl ⟨by omega, by omega⟩, .inl ⟨by omega, by omega⟩, ⟨nq, rfl⟩, fun i h => by omega⟩
  case round =>
    obtain ⟨k, A, B, hak, hke, rfl, rfl, rfl, rfl, HA, HB, HW, HM⟩ := hrel
    have hcw : ∀ a, wr.cell? a = w.cell? a := fun a => by obtain ⟨d, rfl⟩ := HW.out; rfl
    have c0' := (hcw _).trans c0
    have c1' := (hcw _).trans c1
    have c2' := (hcw _).trans c2
    clear c0 c1 c2 hcw
    by_cases hlt : k < e
    · obtain ⟨r1, R1⟩ := ib_exists S hb.out c ⟨by omega, by omega⟩ k e hke
      obtain ⟨r2, R2⟩ := ib_exists S hb.out (c - 32) ⟨by omega, by omega⟩ k e hke
      have hA : (A < k) ∨ A = r1 := by
        rcases HA.out with h | ⟨r, rfl, h⟩
        · exact .inl h.2
        · exact .inr (by rw [h.unique R1])
      have hB : (B < k) ∨ B = r2 := by
        rcases HB.out with h | ⟨r, rfl, h⟩
        · exact .inl h.2
        · exact .inr (by rw [h.unique R2])
      have g1 := R1.ge
      have g2 := R1.le
      have g3 := R2.ge
      have g4 := R2.le
      have HR1 : Hid (IB S k e c r1) := R1
      have HR2 : Hid (IB S k e (c - 32) r2) := R2
      have HAB : Hid ((A < k ∨ A = r1) ∧ (B < k ∨ B = r2)) := ⟨hA, hB⟩
      clear R1 R2 hA hB HA HB
      go_upto_if 63 with (fail)
      go_cut [9] (fun s9 wx => s9 = .int .i64 r1 ∧ wr = wx)
      case first =>
        rcases HAB.out.1 with hA | rfl
        · go_wp2_with (go_at_call 27; refine (ibf_at _ w HW bs e m k r1 c S hlt hem hm hS hb (by omega) (by omega) HR1).mono ?_; rintro x w' ⟨rfl, rfl⟩)
          go_meet
          exact ⟨rfl, rfl⟩
        · go_wp2
          go_meet
          exact ⟨rfl, rfl⟩
      case rest =>
        obtain ⟨rfl, rfl⟩ := hcut
        go_upto_if 72 with (fail)
        go_cut [10] (fun s10 wx => s10 = .int .i64 r2 ∧ wr = wx)
        case first =>
          rcases HAB.out.2 with hB | rfl
          · go_wp2_with (go_at_call 27; refine (ibf_at _ w HW bs e m k r2 (c - 32) S hlt hem hm hS hb (by omega) (by omega) HR2).mono ?_; rintro x w' ⟨rfl, rfl⟩)
            go_meet
            exact ⟨rfl, rfl⟩
          · go_wp2
            go_meet
            exact ⟨rfl, rfl⟩
        case rest =>
          obtain ⟨rfl, rfl⟩ := hcut
          have HB2 : Hid (∀ q : Nat, q ≤ r1 → q ≤ r2 → ∀ i, i + a < q → ¬ Match T n true S i) := fun q h1 h2 => no_between ha (fun _ => hup.out) (by rw [← hcT.out]; exact HR1.out) (by rw [← hcT.out, otherOf, if_pos ⟨rfl, hc97, hc122⟩]; exact HR2.out) HM.out q h1 h2
          clear HM HAB
          by_cases hq : r1 = e ∧ r2 = e
          · have hmin : min (r1 : Int) (r2 : Int) = (e : Int) := by omega
            have HF : Hid (First T n true S m (-1)) := .inl ⟨rfl, fun i hi => HB2.out e (by omega) (by omega) i (by have := HE.out; omega)⟩
            clear hq HB2
            go_wp2
            go_ret
            exact ⟨⟨-1, rfl, HF.out⟩, HW.out⟩
          · obtain ⟨st, hst⟩ : ∃ st : Nat, min r1 r2 = st + a := ⟨min r1 r2 - a, by omega⟩
            have hmin : min (r1 : Int) (r2 : Int) = (st : Int) + (a : Int) := by omega
            have hne : ((st : Int) + (a : Int) == (e : Int)) = false := by simp; omega
            have hsub : (st : Int) + (a : Int) - (a : Int) = (st : Int) := by omega
            have hs1 : st + n ≤ m := by have := HE.out; omega
            have hs2 : k ≤ st + a := by omega
            have hs3 : st + a < e := by omega
            have A1 : Hid (Ahead S (st + a + 1) e c r1) := Ahead.next HR1.out hs2 (by omega)
            have A2 : Hid (Ahead S (st + a + 1) e (c - 32) r2) := Ahead.next HR2.out hs2 (by omega)
            have HM' : Hid (∀ i, i < st → ¬ Match T n true S i) := fun i hi => HB2.out (st + a) (by omega) (by omega) i (by omega)
            clear hq HB2 hst
            by_cases hq : Match T n true S st
            · have HF : Hid (First T n true S m (st : Int)) := .inr ⟨st, rfl, hs1, hq, HM'.out⟩
              have HQ : Hid (true = true ↔ Match T n true S st) := ⟨fun _ => hq, fun _ => rfl⟩
              clear hq HM'
              go_wp2_with (go_at_call 28; refine (equal_at _ w HW l bt bs n m st _ a true T S hn hm hs1 hL hT hS ht hb true HQ).mono ?_; rintro x w' ⟨rfl, hw'⟩)
              go_ret
              exact ⟨⟨_, rfl, HF.out⟩, hw'.out⟩
            · have HQ : Hid (false = true ↔ Match T n true S st) := ⟨fun h => by simp at h, fun h => absurd h hq⟩
              have HM'' : Hid (∀ i, i + a < st + a + 1 → ¬ Match T n true S i) := fun i hi => by
                by_cases e' : i = st
                · subst e'; exact hq
                · exact HM'.out i (by omega)
              clear hq HM'
              go_wp2_with (go_at_call 28; refine (equal_at _ w HW l bt bs n m st _ a true T S hn hm hs1 hL hT hS ht hb false HQ).mono ?_; rintro x w' ⟨rfl, hw'⟩)
              go_roundg (e - (st + a + 1))
              case measure => omega
              case rel => exact ⟨st + a + 1, r1, r2, by omega, by omega, rfl, by go_num, rfl, rfl, A1, A2, hw', HM''⟩
    · have HF : Hid (First T n true S m (-1)) := .inl ⟨rfl, fun i hi => HM.out i (by have := HE.out; omega)⟩
      go_wp2
      go_ret
      exact ⟨⟨-1, rfl, HF.out⟩, HW.out⟩
end Go.Proofs.Qxb6000982a
