import Derived.Test.Qxb6001736aRows
import Derived.Test.Qxb6001736aPlain
import Derived.WalkKit
import Derived.ProofKit
import Derived.OpenShut
import Derived.WalkSpells
import Derived.Deep.OwnRows
import Derived.Deep.LoopGhost
import Derived.Deep.QuietTactic
import Derived.BigQuiet
import Derived.Below
namespace Go.Proofs.Qxb6001736a
open Go.RowKit Go.ChangeShapes
set_option linter.unusedVariables false
set_option linter.unusedSimpArgs false

/-- Only block tb has been written, and nothing made. -/
structure Only (tb : Nat) (w w' : World) : Prop where
  os : w'.os = w.os
  tape : w'.tape = w.tape
  output : w'.output = w.output
  size : w'.heap.size = w.heap.size
  block : ∀ k, k ≠ tb → w'.heap[k]? = w.heap[k]?
theorem Only.refl (tb : Nat) (w : World) : Only tb w w := ⟨rfl, rfl, rfl, rfl, fun _ _ => rfl⟩
theorem Only.trans {tb : Nat} {a b c : World} (h : Only tb a b) (k : Only tb b c) : Only tb a c :=
  ⟨k.os.trans h.os, k.tape.trans h.tape, k.output.trans h.output, k.size.trans h.size, fun i hi => (k.block i hi).trans (h.block i hi)⟩

/-- The tokens struct at block tb: the data's n bytes D (at block b where there are any), the position p. -/
structure TS (w : World) (tb b : Nat) (ao : Option Addr) (n cap p : Nat) (D : Nat → Int) : Prop where
  row : w.heap[tb]? = some (.cells #[.slice ao n cap, .int .i64 p] 51 (0, 0))
  ad : 0 < n → ao = some ⟨b, 0, none⟩
  bytes : ∀ j, j < n → w.cell? ⟨b, j, none⟩ = some (.int .u8 (D j))
  ne : 0 < n → b ≠ tb

theorem TS.c0 {w : World} {tb b n cap p : Nat} {ao : Option Addr} {D : Nat → Int} (h : TS w tb b ao n cap p D) : w.cell? ⟨tb, 0, none⟩ = some (.slice ao n cap) := by simp [World.cell?, h.row]
theorem TS.c1 {w : World} {tb b n cap p : Nat} {ao : Option Addr} {D : Nat → Int} (h : TS w tb b ao n cap p D) : w.cell? ⟨tb, 1, none⟩ = some (.int .i64 p) := by simp [World.cell?, h.row]
theorem TS.f1 {w : World} {tb b n cap p : Nat} {ao : Option Addr} {D : Nat → Int} (h : TS w tb b ao n cap p D) : w.frozen? ⟨tb, 1, none⟩ = false := by simp [World.frozen?, h.row]

/-- The position moved. -/
theorem TS.move {w : World} {tb b n cap p : Nat} {ao : Option Addr} {D : Nat → Int} (h : TS w tb b ao n cap p D) (q : Nat) : TS (w.setCell ⟨tb, 1, none⟩ (.int .i64 q)) tb b ao n cap q D ∧ Only tb w (w.setCell ⟨tb, 1, none⟩ (.int .i64 q)) := by
  refine ⟨⟨?_, h.ad, fun j hj => ?_, h.ne⟩, ⟨rfl, rfl, rfl, by simp [World.setCell], fun k hk => Below.heap_setCell _ _ _ _ hk⟩⟩
  · simp [World.setCell, Array.getElem?_modify, h.row]
  · rw [← h.bytes j hj]
    exact World.cell?_of_block (w := w) (Below.heap_setCell w ⟨tb, 1, none⟩ _ b (h.ne (by omega)))

theorem TS.drewN {w : World} {tb b n cap p : Nat} {ao : Option Addr} {D : Nat → Int} (h : TS w tb b ao n cap p D) (m : Nat) : TS (w.drewN m) tb b ao n cap p D := ⟨h.row, h.ad, h.bytes, h.ne⟩
theorem Only.drewN {tb : Nat} {a w : World} (h : Only tb a w) (m : Nat) : Only tb a (w.drewN m) := ⟨h.os, h.tape, h.output, h.size, h.block⟩

set_option maxHeartbeats 2000000 in
theorem skip_any (w : World) (tb b n cap p s : Nat) (ao : Option Addr) (D : Nat → Int) (hn : n ≤ 1000000000000) (h : Hid (TS w tb b ao n cap p D)) (hps : p ≤ s) (hsn : s ≤ n) (hsep : Hid (∀ j, p ≤ j → j < s → isSep (D j) = true)) (hstop : Hid (s < n → isSep (D s) = false)) :
    Calls Try.prog 27 #[.pointer (some ⟨tb, 0, none⟩)] w fun e w' => e = .returned (.tuple #[]) ∧ Hid (TS w' tb b ao n cap s D) ∧ Hid (Only tb w w') := by
  go_enter Try.func27, Try.ntmps27
  go_wp2
  go_loopg [] (s - p) (fun g wr => ∃ q : Nat, p ≤ q ∧ q ≤ s ∧ g = s - q ∧ Hid (TS wr tb b ao n cap q D) ∧ Hid (Only tb w wr))
  case atStart => exact ⟨p, Nat.le_refl _, hps, rfl, h, Only.refl _ _⟩
  case round =>
    obtain ⟨q, hq1, hq2, rfl, HT, HO⟩ := hrel
    have c0 := HT.out.c0
    have c1 := HT.out.c1
    by_cases hqn : q < n
    · have had := HT.out.ad (by omega)
      have hby := HT.out.bytes q hqn
      subst had
      obtain ⟨c, hc⟩ : ∃ c, c = D q := ⟨_, rfl⟩
      have HC : Hid (c = D q) := hc
      rw [← hc] at hby
      clear hc
      go_wp2_with fail
      go_quiet (fail)
      have hlt : decide ((q : Int) < (n : Int)) = true := by simp; omega
      go_wp2_with fail
      obtain ⟨W2, hW2⟩ : ∃ W2, W2 = wr.drewN nq := ⟨_, rfl⟩
      have HT2 : Hid (TS W2 tb b (some ⟨b, 0, none⟩) n cap q D) := by rw [hW2]; exact HT.out.drewN nq
      have HO2 : Hid (Only tb w W2) := by rw [hW2]; exact HO.out.drewN nq
      have d0 := HT2.out.c0
      have d1 := HT2.out.c1
      have dby := HT2.out.bytes q hqn
      rw [← HC.out] at dby
      rw [← hW2]
      clear hW2 HT HO c0 c1 hby
      go_quiet (fail)
      obtain ⟨W3, hW3⟩ : ∃ W3, W3 = W2.drewN nq := ⟨_, rfl⟩
      have HT3 : Hid (TS W3 tb b (some ⟨b, 0, none⟩) n cap q D) := by rw [hW3]; exact HT2.out.drewN nq
      have HO3 : Hid (Only tb w W3) := by rw [hW3]; exact HO2.out.drewN nq
      have e0 := HT3.out.c0
      have e1 := HT3.out.c1
      have f1 := HT3.out.f1
      rw [← hW3]
      clear hW3 HT2 HO2 d0 d1 dby
      by_cases hqs : q < s
      · have hsp := hsep.out q hq1 hqs
        rw [← HC.out] at hsp
        have HT4 := HT3.out.move (q + 1)
        have HT5 : Hid (TS (W3.setCell ⟨tb, 1, none⟩ (.int .i64 ((q : Int) + 1))) tb b (some ⟨b, 0, none⟩) n cap (q + 1) D) := HT4.1
        have HO5 : Hid (Only tb w (W3.setCell ⟨tb, 1, none⟩ (.int .i64 ((q : Int) + 1)))) := HO3.out.trans HT4.2
        clear HT4 HT3 HO3 HC hsep
        rcases isSep_cases c hsp with rfl | rfl | rfl | rfl | rfl | rfl
        all_goals
          go_wp2_with fail
          go_roundg (s - (q + 1))
          case measure => omega
          case rel => exact ⟨q + 1, by omega, by omega, rfl, HT5, HO5⟩
      · have e : q = s := by omega
        subst e
        have hnp := hstop.out hqn
        rw [← HC.out] at hnp
        obtain ⟨n1, n2, n3, n4, n5, n6⟩ := isSep_not c hnp
        clear hnp hstop HC hsep
        go_wp2_with fail
        exact bodyPost_ret (v := .tuple #[]) (results_none rfl _ _ _) rfl ⟨rfl, HT3, HO3⟩
    · have e : q = s := by omega
      subst e
      have hlt : decide ((q : Int) < (n : Int)) = false := by simp; omega
      go_wp2_with fail
      go_quiet (fail)
      go_wp2_with fail
      go_end0
      exact ⟨rfl, HT.out.drewN _, HO.out.drewN _⟩
end Go.Proofs.Qxb6001736a
