import Derived.Test.Qxb6001736aBLib
import Derived.Laws.CopyOwn
namespace Go.Proofs.Qxb6001736a
open Go.RowKit Go.ChangeShapes
set_option linter.unusedVariables false
set_option linter.unusedSimpArgs false

theorem Try.info9 : (Try.prog.info? 9).map (fun i => (i.zero, i.size, i.bytes)) = some (some (.string ByteArray.empty), 1, 16) := by kernel_rfl
theorem Try.info2 : (Try.prog.info? 2).map (fun i => (i.zero, i.size, i.bytes)) = some (some (.int .i64 0), 1, 8) := by kernel_rfl

theorem inp_of_row {w : World} {g len : Nat} {T : TypeId} {f : Nat → Value} (h : w.heap[g]? = some (.cells ((List.range len).map f).toArray T (0, 0))) : Inp w g (some ⟨g, 0, none⟩) len f :=
  ⟨fun _ => rfl, fun j hj => by simp [World.cell?, h, hj]⟩

/-- A slice that came in. -/
structure Came (w : World) (a : Option Addr) (len cap : Nat) (f : Nat → Value) : Prop where
  one : ∀ j, (f j).oneCell' = true
  nil : a = none → len = 0 ∧ cap = 0
  cells : ∀ x, a = some x → ∀ j, j < len → w.cell? (x.add j) = some (f j)

theorem Came.src {w : World} {x : Addr} {len cap : Nat} {f : Nat → Value} {o : Obj} (h : Came w (some x) len cap f) : ∀ j v, ((List.range len).map f)[j]? = some v → (w.alloc o).cell? (x.add j) = some v := by
  intro j v hv
  have hj : j < len := by
    have := (List.getElem?_eq_some_iff.1 hv).1
    simpa using this
  have hc := h.cells x rfl j hj
  simp [hj] at hv
  subst hv
  rw [← hc]
  exact World.cell?_of_block (w := w) (Below.heap_alloc w _ _ (World.block_lt_of_cell? w _ hc))

theorem copy_all (w : World) (T E : TypeId) (x : Addr) (len cap : Nat) (f : Nat → Value) (cur : Array Value) (hu : Try.prog.underlying T = some (.slice E)) (hs : (Try.prog.info? E).map (·.size) = some 1) (hcur : cur.size = len) (h : Came w (some x) len cap f) :
    ∃ w2, Hid (Below w.heap.size w w2) ∧ Hid (Inp w2 w.heap.size (some ⟨w.heap.size, 0, none⟩) len f) ∧
      (Builtin.copy_ #[T, T] 3 #[.slice (some ⟨w.heap.size, 0, none⟩) len len, .slice (some x) len cap]).run Try.prog (w.alloc (.cells cur E)) = .ok (.int .i64 len) w2 := by
  have hl : ((List.range len).map f).length = len := by simp
  have hrun := run_copy_row (P := Try.prog) (w.alloc (.cells cur E)) T T 3 E w.heap.size 0 len len x len cap cur E ((List.range len).map f) hu hs (Go.Deep.blk_alloc_new _ _) (hl.trans (Nat.min_self len).symm) h.src (by rw [hl]; omega) (fun v hv => by obtain ⟨j, _, rfl⟩ := List.mem_map.1 hv; exact h.one j)
  have e : cur.toList.take 0 ++ (List.range len).map f ++ cur.toList.drop (0 + ((List.range len).map f).length) = (List.range len).map f := by
    rw [hl, List.take_zero, List.nil_append, Nat.zero_add, List.drop_eq_nil_of_le (by simp; omega), List.append_nil]
  rw [e, hl] at hrun
  refine ⟨_, below_setRow ((Below.refl _ _).alloc (Nat.le_refl _) _) (Nat.le_refl _) _, ?_, hrun⟩
  exact inp_of_row (setRow_heap _ _ _ _ E _ (Go.Deep.blk_alloc_new _ _))

def ClonePost (w : World) (len : Nat) (f : Nat → Value) (e : Ending) (w' : World) : Prop :=
  ∃ g b c, e = .returned (.slice g len c) ∧ Hid (Below w.heap.size w w') ∧ Hid (Inp w' b g len f)

set_option maxHeartbeats 1000000 in
theorem clone9 (w : World) (a : Option Addr) (len cap : Nat) (f : Nat → Value) (hl : len ≤ 65536) (h : Hid (Came w a len cap f)) : Calls Try.prog 9 #[.slice a len cap] w (ClonePost w len f) := by
  have q := fun (w : World) (a : Option Addr) (n c n' c' : Nat) => Lib.run_eql_slice_nil (P := Try.prog) w _ _ a n c n' c' Try.underlying22
  cases a with
  | none =>
    obtain ⟨rfl, rfl⟩ := h.out.nil rfl
    go_enter Try.func9, Try.ntmps9
    go_wp2
    go_ret
    exact ⟨none, 0, 0, rfl, Below.refl _ _, fun h => absurd h (by omega), fun j hj => absurd hj (by omega)⟩
  | some x =>
    have hmk := run_make_row' (P := Try.prog) 22 5 (.int .u8 0) 1 Try.underlying22 Try.info5 rfl .i64 .i64 len (by omega) (by omega)
    obtain ⟨w2, HB2, HI, hcp⟩ := copy_all w 22 5 x len cap f (madeCells #[(.int .u8 0)] len) Try.underlying22 (by kernel_rfl) (size_madeCells _ _) h.out
    obtain ⟨cur, hcur⟩ : ∃ cur : Array Value, cur = madeCells #[(.int .u8 0)] len := ⟨_, rfl⟩
    rw [← hcur] at hmk hcp
    clear hcur h
    go_enter Try.func9, Try.ntmps9
    go_wp2
    go_ret
    exact ⟨_, _, _, rfl, HB2, HI⟩

set_option maxHeartbeats 1000000 in
theorem clone10 (w : World) (a : Option Addr) (len cap : Nat) (f : Nat → Value) (hl : len ≤ 65536) (h : Hid (Came w a len cap f)) : Calls Try.prog 10 #[.slice a len cap] w (ClonePost w len f) := by
  have q := fun (w : World) (a : Option Addr) (n c n' c' : Nat) => Lib.run_eql_slice_nil (P := Try.prog) w _ _ a n c n' c' Try.underlying23
  cases a with
  | none =>
    obtain ⟨rfl, rfl⟩ := h.out.nil rfl
    go_enter Try.func10, Try.ntmps10
    go_wp2
    go_ret
    exact ⟨none, 0, 0, rfl, Below.refl _ _, fun h => absurd h (by omega), fun j hj => absurd hj (by omega)⟩
  | some x =>
    have hmk := run_make_row' (P := Try.prog) 23 9 (.string ByteArray.empty) 16 Try.underlying23 Try.info9 rfl .i64 .i64 len (by omega) (by omega)
    obtain ⟨w2, HB2, HI, hcp⟩ := copy_all w 23 9 x len cap f (madeCells #[(.string ByteArray.empty)] len) Try.underlying23 (by kernel_rfl) (size_madeCells _ _) h.out
    obtain ⟨cur, hcur⟩ : ∃ cur : Array Value, cur = madeCells #[(.string ByteArray.empty)] len := ⟨_, rfl⟩
    rw [← hcur] at hmk hcp
    clear hcur h
    go_enter Try.func10, Try.ntmps10
    go_wp2
    go_ret
    exact ⟨_, _, _, rfl, HB2, HI⟩

set_option maxHeartbeats 1000000 in
theorem clone11 (w : World) (a : Option Addr) (len cap : Nat) (f : Nat → Value) (hl : len ≤ 65536) (h : Hid (Came w a len cap f)) : Calls Try.prog 11 #[.slice a len cap] w (ClonePost w len f) := by
  have q := fun (w : World) (a : Option Addr) (n c n' c' : Nat) => Lib.run_eql_slice_nil (P := Try.prog) w _ _ a n c n' c' Try.underlying24
  cases a with
  | none =>
    obtain ⟨rfl, rfl⟩ := h.out.nil rfl
    go_enter Try.func11, Try.ntmps11
    go_wp2
    go_ret
    exact ⟨none, 0, 0, rfl, Below.refl _ _, fun h => absurd h (by omega), fun j hj => absurd hj (by omega)⟩
  | some x =>
    have hmk := run_make_row' (P := Try.prog) 24 2 (.int .i64 0) 8 Try.underlying24 Try.info2 rfl .i64 .i64 len (by omega) (by omega)
    obtain ⟨w2, HB2, HI, hcp⟩ := copy_all w 24 2 x len cap f (madeCells #[(.int .i64 0)] len) Try.underlying24 (by kernel_rfl) (size_madeCells _ _) h.out
    obtain ⟨cur, hcur⟩ : ∃ cur : Array Value, cur = madeCells #[(.int .i64 0)] len := ⟨_, rfl⟩
    rw [← hcur] at hmk hcp
    clear hcur h
    go_enter Try.func11, Try.ntmps11
    go_wp2
    go_ret
    exact ⟨_, _, _, rfl, HB2, HI⟩

end Go.Proofs.Qxb6001736a
