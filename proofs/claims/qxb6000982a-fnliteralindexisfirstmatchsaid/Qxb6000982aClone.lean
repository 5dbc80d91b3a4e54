import Derived.Test.Qxb6000982aRows
import Derived.Test.Qxb6000982aPlain
import Derived.WalkKit
import Derived.ProofKit
import Derived.OpenShut
import Derived.WalkSpells
import Derived.Deep.OwnRows
import Derived.Deep.LoopGhost
import Derived.Below
namespace Go.Proofs.Qxb6000982a
open Go.RowKit Go.ChangeShapes
set_option linter.unusedVariables false

theorem Try.info5 : (Try.prog.info? 5).map (fun i => (i.zero, i.size, i.bytes)) = some (some (.int .u8 0), 1, 1) := by kernel_rfl

/-- What a clone of a byte slice leaves. -/
def Cloned (w w' : World) (a : Option Addr) (len : Nat) (Z : Nat → Int) : Prop :=
  Below w.heap.size w w' ∧ ((a = none ∧ len = 0) ∨ ∃ b, a = some ⟨b, 0, none⟩ ∧ w.heap.size ≤ b ∧ w'.rowIs b 5 len (fun i => .int .u8 (Z i)))

theorem clone_nil (w : World) : Calls Try.prog 11 #[.slice none 0 0] w fun e w' => e = .returned (.slice none 0 0) ∧ w' = w := by
  have q := fun (w : World) (a : Option Addr) (n c n' c' : Nat) => Lib.run_eql_slice_nil (P := Try.prog) w _ _ a n c n' c' Try.underlying22
  go_enter Try.func11, Try.ntmps11
  go_wp2
  go_ret
  exact ⟨rfl, rfl⟩

set_option maxHeartbeats 400000 in
theorem clone_some (w : World) (b off len cap : Nat) (Z : Nat → Int) (hl : len ≤ 1048576) (hc : ∀ j, j < len → w.cell? ⟨b, off + j, none⟩ = some (.int .u8 (Z j))) :
    Calls Try.prog 11 #[.slice (some ⟨b, off, none⟩) len cap] w fun e w' => ∃ g, e = .returned (.slice g len len) ∧ Cloned w w' g len Z := by
  have q := fun (w : World) (a : Option Addr) (n c n' c' : Nat) => Lib.run_eql_slice_nil (P := Try.prog) w _ _ a n c n' c' Try.underlying22
  have hmk := run_make_row' (P := Try.prog) 22 5 (.int .u8 0) 1 Try.underlying22 Try.info5 rfl .i64 .i64 len (by omega) (by omega)
  go_enter Try.func11, Try.ntmps11
  go_wp2
  go_loopg [4] len (fun n i wr => ∃ k : Nat, k ≤ len ∧ n = len - k ∧ i = .int .i64 k ∧ Below w.heap.size w wr ∧ wr.rowIs w.heap.size 5 len (fun j => if j < k then .int .u8 (Z j) else .int .u8 0))
  case atStart =>
    exact ⟨0, Nat.zero_le _, rfl, rfl, (Below.refl _ _).alloc (Nat.le_refl _) _, (World.rowIs_made w (.int .u8 0) len 5).congr (fun i _ => by simp)⟩
  case round =>
    obtain ⟨k, hk, rfl, rfl, hb, hr⟩ := hrel
    by_cases hlt : k < len
    · have hbl : b < w.heap.size := World.block_lt_of_cell? w ⟨b, off + k, none⟩ (hc k hlt)
      have h1 : wr.cell? ⟨b, off + k, none⟩ = some (.int .u8 (Z k)) := (hb.cell (p := ⟨b, off + k, none⟩) hbl).trans (hc k hlt)
      have h2 : wr.cell? ⟨w.heap.size, k, none⟩ = some (.int .u8 0) := by rw [hr.cell hlt]; simp
      have h3 : wr.frozen? ⟨w.heap.size, k, none⟩ = false := hr.frozen k
      have HR : Hid (wr.rowIs w.heap.size 5 len (fun j => if j < k then .int .u8 (Z j) else .int .u8 0)) := hr
      have HB : Hid (Below w.heap.size w wr) := hb
      clear hr hb hc q hmk
      go_wp2
      go_roundg (len - (k + 1))
      case measure => omega
      case rel =>
        refine ⟨k + 1, by omega, rfl, by go_num, HB.out.setCell (Nat.le_refl _) _, ((HR.out.set k _).congr ?_)⟩
        intro j hj
        by_cases e : j = k
        · subst e; simp
        · by_cases e2 : j < k
          · simp [e, e2, show j < k + 1 by omega]
          · simp [e, e2, show ¬ j < k + 1 by omega]
    · have HB : Hid (Below w.heap.size w wr) := hb
      have e : k = len := by omega
      subst e
      have HR : Hid (wr.rowIs w.heap.size 5 k (fun j => .int .u8 (Z j))) := hr.congr (fun j hj => by simp [hj])
      clear hr hb hc q hmk
      go_wp2
      go_ret
      exact ⟨_, rfl, HB.out, .inr ⟨_, rfl, Nat.le_refl _, HR.out⟩⟩

theorem clone_zero (w : World) (x : Addr) (cap : Nat) :
    Calls Try.prog 11 #[.slice (some x) 0 cap] w fun e w' => ∃ g, e = .returned (.slice g 0 0) ∧ Below w.heap.size w w' := by
  have q := fun (w : World) (a : Option Addr) (n c n' c' : Nat) => Lib.run_eql_slice_nil (P := Try.prog) w _ _ a n c n' c' Try.underlying22
  have hmk := run_make_row' (P := Try.prog) 22 5 (.int .u8 0) 1 Try.underlying22 Try.info5 rfl .i64 .i64 0 (by omega) (by omega)
  simp only [Int.cast_ofNat_Int] at hmk
  go_enter Try.func11, Try.ntmps11
  go_wp2
  go_loopg [4] 0 (fun n i wr => i = .int .i64 0 ∧ Hid (Below w.heap.size w wr))
  case atStart => exact ⟨rfl, (Below.refl _ _).alloc (Nat.le_refl _) _⟩
  case round =>
    obtain ⟨rfl, hb⟩ := hrel
    go_wp2
    go_ret
    exact ⟨_, rfl, hb.out⟩
end Go.Proofs.Qxb6000982a
