import Derived.Test.Qxb6001736aNext
namespace Go.Proofs.Qxb6001736a
open Go.RowKit Go.ChangeShapes
set_option linter.unusedVariables false
set_option linter.unusedSimpArgs false

set_option maxRecDepth 1000000 in
set_option maxHeartbeats 2000000 in
theorem next_end (w : World) (tb b n cap p : Nat) (ao : Option Addr) (D : Nat → Int) (hn : n ≤ 1000000000000) (h : Hid (TS w tb b ao n cap p D)) (hps : p ≤ n) (hsep : Hid (∀ j, p ≤ j → j < n → isSep (D j) = true)) :
    Calls Try.prog 26 #[.pointer (some ⟨tb, 0, none⟩)] w (NextPost w tb b ao n cap n D (.agg #[.int .u8 0, .slice none 0 0])) := by
  have hns : Hid (n < n → isSep (D n) = false) := fun h => absurd h (Nat.lt_irrefl _)
  have htb : tb < w.heap.size := (Array.getElem?_eq_some_iff.1 h.out.row).1
  have hbl : Hid (0 < n → b < w.heap.size) := fun h0 => World.block_lt_of_cell? w ⟨b, 0, none⟩ (h.out.bytes 0 h0)
  go_enter Try.func26, Try.ntmps26
  go_wp2_with fail
  refine (skip_any _ tb b n cap p n ao D hn (h.out.alloc _) hps (Nat.le_refl _) hsep hns).mono ?_
  rintro x w2 ⟨rfl, HT, HO⟩
  have HG : Hid (w.grownBy w2 (some tb)) := ⟨HO.out.os, HO.out.tape, HO.out.output, by rw [HO.out.size]; simp, fun i h1 h2 => (HO.out.block i (fun h => h2 (by rw [h]))).trans (Below.heap_alloc _ _ _ h1)⟩
  have HR : w2.heap[w.heap.size]? = some (.cells #[.int .u8 0, .slice none 0 0] 53 (0, 0)) := (HO.out.block _ (by omega)).trans (Go.Deep.blk_alloc_new _ _)
  have r0 : w2.cell? ⟨w.heap.size, 0, none⟩ = some (.int .u8 0) := by simp [World.cell?, HR]
  have r1 : w2.cell? ⟨w.heap.size, 1, none⟩ = some (.slice none 0 0) := by simp [World.cell?, HR]
  have q0 : w2.frozen? ⟨w.heap.size, 0, none⟩ = false := by simp [World.frozen?, HR]
  have q1 : w2.frozen? ⟨w.heap.size, 1, none⟩ = false := by simp [World.frozen?, HR]
  have HR4 : Hid (w2.heap[w.heap.size]? = some (.cells #[.int .u8 0, .slice none 0 0] 53 (0, 0))) := HR
  clear HO h HR
  have c0 := HT.out.c0
  have c1 := HT.out.c1
  have hne : ((n : Int) == (n : Int)) = true := by simp
  go_wp2_with fail
  go_quiet (fail)
  have HG2 : Hid (w.grownBy (w2.drewN nq) (some tb)) := ⟨HG.out.os, HG.out.tape, HG.out.output, HG.out.size, HG.out.block⟩
  have hfin := next_done (.int .u8 0) (.slice none 0 0) (HT.out.drewN nq) HG2.out htb hbl.out
  have hrow := row_after (wx := w2.drewN nq) HR4.out (.int .u8 0) (.slice none 0 0)
  have HF1 : Hid (TS (((w2.drewN nq).setCell ⟨w.heap.size, 0, none⟩ (.int .u8 0)).setCell ⟨w.heap.size, 1, none⟩ (.slice none 0 0)) tb b ao n cap n D) := ⟨hfin.1.row, hfin.1.ad, hfin.1.bytes, hfin.1.ne⟩
  have HF2 : Hid (w.grownBy (((w2.drewN nq).setCell ⟨w.heap.size, 0, none⟩ (.int .u8 0)).setCell ⟨w.heap.size, 1, none⟩ (.slice none 0 0)) (some tb)) := ⟨hfin.2.os, hfin.2.tape, hfin.2.output, hfin.2.size, hfin.2.block⟩
  have G0 : Hid ((((w2.drewN nq).setCell ⟨w.heap.size, 0, none⟩ (.int .u8 0)).setCell ⟨w.heap.size, 1, none⟩ (.slice none 0 0)).cell? ⟨w.heap.size, 0, none⟩ = some (.int .u8 0)) := hrow.1
  have G1 : Hid ((((w2.drewN nq).setCell ⟨w.heap.size, 0, none⟩ (.int .u8 0)).setCell ⟨w.heap.size, 1, none⟩ (.slice none 0 0)).cell? ⟨w.heap.size, 1, none⟩ = some (.slice none 0 0)) := hrow.2
  clear hfin hrow HG HG2 HR4
  go_wp2_with fail
  exact bodyPost_ret (v := .agg #[.int .u8 0, .slice none 0 0]) (by have g0 := G0.out; have g1 := G1.out; simp [results, Try.results26, go_sem, g0, g1]) rfl ⟨rfl, HF1, HF2⟩

set_option maxRecDepth 1000000 in
set_option maxHeartbeats 2000000 in
theorem zn_gen (w : World) (b n cap p e : Nat) (ao ta : Option Addr) (tl tc : Nat) (D : Nat → Int) (k : Int)
    (hnx : Hid (∀ W', W' = w.alloc (.cells #[.slice ao n cap, .int .i64 p] 51) → Calls Try.prog 26 #[.pointer (some ⟨w.heap.size, 0, none⟩)] W' (NextPost W' w.heap.size b ao n cap e D (.agg #[.int .u8 k, .slice ta tl tc])))) :
    Calls Try.prog 13 #[.slice ao n cap, .int .i64 p] w fun x w' => x = .returned (.tuple #[.int .u8 k, .slice ta tl tc, .int .i64 e]) ∧ Hid (Below w.heap.size w w') := by
  go_enter Try.func13, Try.ntmps13
  go_wp2_with fail
  refine (hnx.out _ rfl).mono ?_
  rintro x w2 ⟨rfl, HT, HG⟩
  have htb : w.heap.size < w2.heap.size := by have := HG.out.size; simp at this; omega
  have c1 := (HT.out.alloc (.cells #[.int .u8 k, .slice ta tl tc] 53)).c1
  have HB : Hid (Below w.heap.size w w2) := ⟨HG.out.os, HG.out.tape, HG.out.output, by omega, fun i hi => (HG.out.block i (by simp; omega) (by simp; omega)).trans (Below.heap_alloc _ _ _ hi)⟩
  clear HT HG
  go_wp2_with fail
  go_quiet (fail)
  go_wp2_with fail
  go_ret3
  have hh := HB.out.alloc (by omega) (.cells #[.int .u8 k, .slice ta tl tc] 53)
  exact ⟨rfl, ⟨hh.os, hh.tape, hh.output, hh.size, hh.block⟩⟩

/-- The data as it lies. -/
structure DataAt (w : World) (b : Nat) (ao : Option Addr) (n : Nat) (D : Nat → Int) : Prop where
  ad : 0 < n → ao = some ⟨b, 0, none⟩
  bytes : ∀ j, j < n → w.cell? ⟨b, j, none⟩ = some (.int .u8 (D j))

theorem DataAt.below {w w' : World} {b n : Nat} {ao : Option Addr} {D : Nat → Int} (h : DataAt w b ao n D) (hB : Below w.heap.size w w') : DataAt w' b ao n D :=
  ⟨h.ad, fun j hj => (hB.cell (p := ⟨b, j, none⟩) (World.block_lt_of_cell? w ⟨b, j, none⟩ (h.bytes j hj))).trans (h.bytes j hj)⟩

theorem ts_new {w : World} {b n : Nat} {ao : Option Addr} {D : Nat → Int} (h : DataAt w b ao n D) (cap p : Nat) : TS (w.alloc (.cells #[.slice ao n cap, .int .i64 p] 51)) w.heap.size b ao n cap p D := by
  have hlt : ∀ j, j < n → b < w.heap.size := fun j hj => World.block_lt_of_cell? w ⟨b, j, none⟩ (h.bytes j hj)
  refine ⟨Go.Deep.blk_alloc_new _ _, h.ad, fun j hj => ?_, fun h0 => by have := hlt 0 h0; omega⟩
  rw [← h.bytes j hj]
  exact World.cell?_of_block (w := w) (Below.heap_alloc w _ b (hlt j hj))

theorem zn_tok (w : World) (b n cap p s e : Nat) (ao : Option Addr) (D : Nat → Int) (k : Int) (hn : n ≤ 1000000000000) (h : Hid (DataAt w b ao n D)) (hD : Hid (∀ j, 0 ≤ D j ∧ D j ≤ 255)) (hps : p ≤ s) (hse : s < e) (hen : e ≤ n) (hsep : Hid (∀ j, p ≤ j → j < s → isSep (D j) = true)) (hS : Hid (Shape D s e k)) (hend : Hid (e < n → isNum (D e) = false)) (hcap : n ≤ cap) :
    Calls Try.prog 13 #[.slice ao n cap, .int .i64 p] w fun x w' => x = .returned (.tuple #[.int .u8 k, .slice (some ⟨b, s, none⟩) (e - s) (cap - s), .int .i64 e]) ∧ Hid (Below w.heap.size w w') :=
  zn_gen w b n cap p e ao _ _ _ D k (fun W' hW => by subst hW; exact next_any _ w.heap.size b n cap p s e ao D k hn (ts_new h.out cap p) hD hps hse hen hsep hS hend hcap)

theorem zn_end (w : World) (b n cap p : Nat) (ao : Option Addr) (D : Nat → Int) (hn : n ≤ 1000000000000) (h : Hid (DataAt w b ao n D)) (hps : p ≤ n) (hsep : Hid (∀ j, p ≤ j → j < n → isSep (D j) = true)) :
    Calls Try.prog 13 #[.slice ao n cap, .int .i64 p] w fun x w' => x = .returned (.tuple #[.int .u8 0, .slice none 0 0, .int .i64 n]) ∧ Hid (Below w.heap.size w w') :=
  zn_gen w b n cap p n ao _ _ _ D 0 (fun W' hW => by subst hW; exact next_end _ w.heap.size b n cap p ao D hn (ts_new h.out cap p) hps hsep)

set_option maxHeartbeats 1000000 in
theorem same_any (w : World) (b s m c1 c2 : Nat) (D : Nat → Int) (hm : m ≤ 1000000000000) (h : Hid (∀ j, j < m → w.cell? ⟨b, s + j, none⟩ = some (.int .u8 (D (s + j))))) :
    Calls Try.prog 14 #[.slice (some ⟨b, s, none⟩) m c1, .slice (some ⟨b, s, none⟩) m c2] w fun x w' => x = .returned (.bool true) ∧ ∃ d, w' = w.drewN d := by
  go_enter Try.func14, Try.ntmps14
  go_wp2_with fail
  go_loopg [5] m (fun g i wr => ∃ j : Nat, j ≤ m ∧ g = m - j ∧ i = .int .i64 j ∧ Hid (∃ d, wr = w.drewN d))
  case atStart => exact ⟨0, Nat.zero_le _, rfl, rfl, 0, rfl⟩
  case round =>
    obtain ⟨j, hj, rfl, rfl, HW⟩ := hrel
    by_cases hlt : j < m
    · have hc : wr.cell? ⟨b, s + j, none⟩ = some (.int .u8 (D (s + j))) := by obtain ⟨d, rfl⟩ := HW.out; exact h.out j hlt
      go_wp2_with fail
      go_quiet (fail)
      have HW2 : Hid (∃ d, wr.drewN nq = w.drewN d) := by obtain ⟨d, rfl⟩ := HW.out; exact ⟨d + nq, World.drewN_drewN _ _ _⟩
      go_wp2_with fail
      go_roundg (m - (j + 1))
      case measure => omega
      case rel => exact ⟨j + 1, by omega, rfl, by go_num, HW2⟩
    · go_wp2_with fail
      go_ret
      exact ⟨rfl, HW.out⟩
end Go.Proofs.Qxb6001736a
