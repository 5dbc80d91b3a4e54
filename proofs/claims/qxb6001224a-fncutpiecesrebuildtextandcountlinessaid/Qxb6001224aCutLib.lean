import Derived.Test.Qxb6001224aPlain
import Derived.Deep.DeepCutAuto
import Derived.Deep.CutBlock
import Derived.Deep.RegionWith
import Derived.Deep.RegionLaw
import Derived.Maps.AppendAt
namespace Go.Proofs.Qxb6001224a
open Go.RowKit Go.ChangeShapes
set_option linter.unusedVariables false
set_option linter.unusedSimpArgs false

theorem Try.info43 : (Try.prog.info? 43).map (fun i => (i.zero, i.size, i.bytes)) = some (some (.agg #[.string ByteArray.empty, .int .i64 0, .int .i64 0]), 3, 32) := by kernel_rfl

theorem own_form {w : World} {base : Nat} {e : TypeId} {size : Nat} {v : Value} {n : Nat} {xs : List Value} (h : w.ownsRow base e size v n xs) : ∃ ao cap, v = .slice ao n cap := by
  rcases h.2 with ⟨rfl, rfl⟩ | ⟨g, cap, cur, rfl, _⟩
  · exact ⟨none, 0, rfl⟩
  · exact ⟨_, cap, rfl⟩

theorem own_below {w w' : World} {base : Nat} {e : TypeId} {size : Nat} {v : Value} {n : Nat} {xs : List Value} (h : w.ownsRow base e size v n xs) (hB : Below w.heap.size w w') : w'.ownsRow base e size v n xs := by
  refine ⟨h.1, ?_⟩
  rcases h.2 with hn | ⟨g, cap, cur, rfl, hb, hgg, rest⟩
  · exact .inl hn
  · exact .inr ⟨g, cap, cur, rfl, hb, (hB.block g (Array.getElem?_eq_some_iff.1 hgg).1).trans hgg, rest⟩

theorem count_any (s : ByteArray) (c : UInt8) (w : World) : Calls Try.prog 28 #[.string s, .string ⟨#[c]⟩] w fun e w' => (∃ q : Int, e = .returned (.int .i64 q)) ∧ w' = w := by
  refine (Try.strings_Count_one s c w).mono ?_
  rintro e w' ⟨rfl, rfl⟩
  exact ⟨⟨_, rfl⟩, rfl⟩

theorem count_nl (t : ByteArray) (a b : Nat) (w : World) : Calls Try.prog 28 #[.string (t.extract a b), .string ⟨#[10]⟩] w fun e w' => e = .returned (.int .i64 (nl t a b)) ∧ w' = w := Try.strings_Count_one (t.extract a b) 10 w

/-- append onto a row of the call's own, as one step of a region that draws. -/
theorem step_append_own {P : Program} {ops : Array Oper} {o : Oper} {a : Act} {w : World} {K : Act → World → Prop} {Q : Exit → Act → World → Prop} {E : Prop}
    (hg : o.guard = none) (s x : Operand) (t : TypeId) (hop : o.op = Op.call { callee := Callee.builtin Builtin.append, args := #[s, x], argTypes := #[t, t] })
    (base : Nat) (e : TypeId) (i : TypeInfo) (z : Value) (size bytes : Nat) (h1 : P.underlying t = some (.slice e)) (h2 : P.info? e = some i) (h3 : i.zero = some z) (h4 : i.size = size) (h5 : i.bytes = bytes) (h6 : z.cells.size = size) (h7 : 0 < size)
    (v : Value) (n : Nat) (xs : List Value) (hs : a.eval s = v) (hown : w.ownsRow base e size v n xs)
    (ad : Addr) (m c : Nat) (news : List Value) (hx : a.eval x = .slice (some ad) m c) (hn : news.length = m * size) (hc : ∀ j u, news[j]? = some u → w.cell? (ad.add j) = some u) (h1c : ∀ u ∈ news, u.oneCell' = true)
    (b1 : n + m ≤ maxLen) (b2 : (n + m) * bytes ≤ 140737488355328) (b3 : base ≤ w.heap.size)
    (hK : ∀ v' w', w'.ownsRow base e size v' (n + m) (xs ++ news) → w.grownBy w' v.ownBlock → K (a.put o.dst v') w') :
    if Region.wanted o (yielded ops a.tmps) = true then Oper.wp P o a w K Q else E := by
  have hw : Region.wanted o (yielded ops a.tmps) = true := by simp [Region.wanted, hg]
  rw [if_pos hw]
  obtain ⟨v', w', hrun, r1, r2, _⟩ := run_append_own (P := P) w base t o.type e i z size bytes h1 h2 h3 h4 h5 h6 h7 v n xs hown ad m c news hn hc h1c b1 b2 b3
  unfold Oper.wp
  simp [execOp, hop, resolve, invoke, builtin, hs, hx, hrun, Result.andThen]
  exact hK v' w' r1 r2

theorem three_cells (w : World) (a b c : Value) (T : TypeId) : ∀ (j : Nat) u, [a, b, c][j]? = some u → (w.alloc (.cells #[a, b, c] T)).cell? ((⟨w.heap.size, 0, none⟩ : Addr).add j) = some u := by
  intro j u h
  match j, h with
  | 0, h => simp at h; subst h; simp [Addr.add]
  | 1, h => simp at h; subst h; simp [Addr.add]
  | 2, h => simp at h; subst h; simp [Addr.add]
  | j + 3, h => simp at h
theorem three_cells_drew (w : World) (a b c : Value) (T : TypeId) : ∀ (j : Nat) u, [a, b, c][j]? = some u → (w.alloc (.cells #[a, b, c] T)).drew.cell? ((⟨w.heap.size, 0, none⟩ : Addr).add j) = some u := three_cells w a b c T
theorem three_one (s : ByteArray) (a b : Int) : ∀ u ∈ [Value.string s, .int .i64 a, .int .i64 b], u.oneCell' = true := by
  intro u hu
  simp at hu
  rcases hu with rfl | rfl | rfl <;> rfl

/-- What cut's loop carries. -/
structure Inv (t : ByteArray) (g : Nat) (parts : Int) (w : World) (ao : Option Addr) (k cap : Nat) (p : Nat → Nat) (wr : World) : Prop where
  cuts : Cuts t.size g p k
  many : k = 0 ∨ (k : Int) ≤ parts - 1
  own : wr.ownsRow w.heap.size 43 3 (.slice ao k cap) k (cellsOf t p k)
  below : Below w.heap.size w wr

theorem Inv.later {t : ByteArray} {g : Nat} {parts : Int} {w : World} {ao : Option Addr} {k cap : Nat} {p : Nat → Nat} {wr w' : World} (h : Inv t g parts w ao k cap p wr) (hB : Below wr.heap.size wr w') : Inv t g parts w ao k cap p w' :=
  ⟨h.cuts, h.many, own_below h.own hB, h.below.trans (hB.mono h.below.size)⟩

/-- What cut hands back. -/
def CutPost (t : ByteArray) (g : Nat) (parts : Int) (w : World) (e : Ending) (w' : World) : Prop := ∃ (n : Nat) (p : Nat → Nat) (v : Value), e = .returned v ∧ (n = 0 ∨ (n : Int) ≤ parts - 1) ∧ Cuts t.size g p n ∧
  w'.ownsRow w.heap.size 43 3 v (n + 1) (cellsOf t (withCut p n t.size) (n + 1)) ∧ Below w.heap.size w w'


theorem three_cells2 (w : World) (o : Obj) (a b c : Value) (T : TypeId) : ∀ (j : Nat) u, [a, b, c][j]? = some u → ((w.alloc o).alloc (.cells #[a, b, c] T)).drew.cell? ((⟨w.heap.size + 1, 0, none⟩ : Addr).add j) = some u := by
  intro j u h
  have := three_cells (w.alloc o) a b c T j u h
  simpa using this

/-- One piece more. -/
theorem cut_step {t : ByteArray} {g : Nat} {parts : Int} {w wc w' : World} {ao : Option Addr} {k cap : Nat} {p : Nat → Nat} {st li e : Nat} {v' : Value} (HI : Inv t g parts w ao k cap p wc) (HP : st = p k ∧ li = nl t 0 (p k)) (hk : (k : Int) < parts - 1) (h1 : st + g ≤ e) (h2 : st + 1 ≤ e) (h3 : e ≤ t.size) (x y z : Value) (o : Obj)
    (hown : w'.ownsRow w.heap.size 43 3 v' (k + 1) (cellsOf t p k ++ [.string (t.extract st e), .int .i64 li, .int .i64 (nl t st e)])) (hg : ((wc.alloc (.cells #[x, y, z] 43)).alloc o).drew.grownBy w' (Value.slice ao k cap).ownBlock) :
    ∃ ao' cap', v' = .slice ao' (k + 1) cap' ∧ Hid (Inv t g parts w ao' (k + 1) cap' (withCut p k e) w') ∧ w'.cell? ⟨wc.heap.size, 2, none⟩ = some z := by
  obtain ⟨rfl, rfl⟩ := HP
  obtain ⟨ao', cap', rfl⟩ := own_form hown
  have hb : ∀ b, (Value.slice ao k cap).ownBlock = some b → w.heap.size ≤ b ∧ b < wc.heap.size := by
    intro b hb
    rcases HI.own.2 with ⟨e, _⟩ | ⟨g', cap', cur, e, hle, hh, _⟩
    · cases e; simp [Value.ownBlock] at hb
    · cases e; simp [Value.ownBlock] at hb; subst hb; exact ⟨hle, (Array.getElem?_eq_some_iff.1 hh).1⟩
  have h5 : Below w.heap.size w ((wc.alloc (.cells #[x, y, z] 43)).alloc o).drew := ((HI.below.alloc HI.below.size _).alloc (by have := HI.below.size; simp; omega) o).drew
  refine ⟨ao', cap', rfl, ⟨HI.cuts.step h1 h2 h3, .inr (by omega), by rw [← cellsOf_step]; exact hown, h5.grown hg h5.size (fun b h => (hb b h).1)⟩, ?_⟩
  have h6 : w'.heap[wc.heap.size]? = ((wc.alloc (.cells #[x, y, z] 43)).alloc o).drew.heap[wc.heap.size]? := hg.block _ (by simp; omega) (fun h => by have := (hb _ h.symm).2; omega)
  have h7 : w'.cell? ⟨wc.heap.size, 2, none⟩ = ((wc.alloc (.cells #[x, y, z] 43)).alloc o).drew.cell? ⟨wc.heap.size, 2, none⟩ := World.cell?_of_block (w := ((wc.alloc (.cells #[x, y, z] 43)).alloc o).drew) h6
  rw [h7]
  simp

theorem Inv.drewN {t : ByteArray} {g : Nat} {parts : Int} {w : World} {ao : Option Addr} {k cap : Nat} {p : Nat → Nat} {wr : World} (h : Inv t g parts w ao k cap p wr) (n : Nat) : Inv t g parts w ao k cap p (wr.drewN n) :=
  ⟨h.cuts, h.many, h.own, ⟨h.below.os, h.below.tape, h.below.output, h.below.size, h.below.block⟩⟩

/-- The last piece. -/
theorem cut_done {t : ByteArray} {g : Nat} {parts : Int} {w wc w' : World} {ao : Option Addr} {k cap : Nat} {p : Nat → Nat} {st li : Nat} {v' : Value} (HI : Inv t g parts w ao k cap p wc) (HP : st = p k ∧ li = nl t 0 (p k)) (o : Obj)
    (hown : w'.ownsRow w.heap.size 43 3 v' (k + 1) (cellsOf t p k ++ [.string (t.extract st t.size), .int .i64 li, .int .i64 (nl t st t.size)])) (hg : (wc.alloc o).drew.grownBy w' (Value.slice ao k cap).ownBlock) : CutPost t g parts w (.returned v') w' := by
  obtain ⟨rfl, rfl⟩ := HP
  refine ⟨k, p, v', rfl, HI.many, HI.cuts, by rw [← cellsOf_step]; exact hown, ?_⟩
  have h1 : Below w.heap.size w (wc.alloc o).drew := (HI.below.alloc HI.below.size o).drew
  refine h1.grown hg h1.size (fun b hb => ?_)
  rcases HI.own.2 with ⟨e, _⟩ | ⟨g', cap', cur, e, hle, _⟩
  · cases e; simp [Value.ownBlock] at hb
  · cases e; simp [Value.ownBlock] at hb; omega
end Go.Proofs.Qxb6001224a
