import Derived.Test.Qxb6001224aCut
namespace Go.Proofs.Qxb6001224a
open Go.RowKit Go.ChangeShapes
set_option linter.unusedVariables false
set_option linter.unusedSimpArgs false

theorem Try.info9 : (Try.prog.info? 9).map (fun i => (i.zero, i.size, i.bytes)) = some (some (.string ByteArray.empty), 1, 16) := by kernel_rfl
theorem Try.info3 : (Try.prog.info? 3).map (fun i => (i.zero, i.size, i.bytes)) = some (some (.int .i64 0), 1, 8) := by kernel_rfl

/-- The least size of a piece, as cut reckons it. -/
def sizeOf (t : ByteArray) (parts least : Int) : Nat := (max least ((t.size : Int) / max parts 1)).toNat

theorem wrap_id (x : Int) (h0 : 0 ≤ x) (h1 : x ≤ 9223372036854775807) : wrap64 x = x := by unfold wrap64; omega

theorem quot_bd (a : Nat) (b : Int) (hb : 1 ≤ b) : 0 ≤ (a : Int) / b ∧ (a : Int) / b ≤ a := by
  refine ⟨Int.ediv_nonneg (by omega) (by omega), Int.ediv_le_self _ (by omega)⟩

theorem cut_any (t : ByteArray) (parts least : Int) (w : World) (ht : t.size ≤ 1048576) (hp : parts ≤ 9223372036854775807) (hl : least ≤ 9223372036854775807) :
    Calls Try.prog 24 #[.string t, .int .i64 parts, .int .i64 least] w (CutPost t (sizeOf t parts least) parts w) := by
  have hq := quot_bd t.size (max parts 1) (by omega)
  have hw := wrap_id ((t.size : Int) / max parts 1) hq.1 (by omega)
  have hs : max least (wrap64 (↑t.size / max parts 1)) = ((sizeOf t parts least : Nat) : Int) := by rw [hw]; unfold sizeOf; omega
  by_cases h : sizeOf t parts least < t.size
  · have h2 : 2 ≤ parts := by
      by_cases h2 : 2 ≤ parts
      · exact h2
      · have e : max parts 1 = 1 := by omega
        have : (sizeOf t parts least : Nat) = (max least ((t.size : Int) / max parts 1)).toNat := rfl
        rw [e, Int.ediv_one] at this
        omega
    exact cut_many t parts least _ w ht h h2 hp hs
  · exact cut_one t parts least ((sizeOf t parts least : Nat) : Int) w ht (by omega) (by unfold sizeOf; omega) hs _

/-- The values of a row that is built one by one. -/
def rowV (f : Nat → Value) (n : Nat) : List Value := (List.range n).map f
theorem rowV_succ (f : Nat → Value) (n : Nat) : rowV f (n + 1) = rowV f n ++ [f n] := by simp [rowV, List.range_succ]
theorem rowV_length (f : Nat → Value) (n : Nat) : (rowV f n).length = n := by simp [rowV]
theorem rowV_at (f : Nat → Value) (n j : Nat) (h : j < n) : (rowV f n)[j]? = some (f j) := by simp [rowV, h]

def fText (t : ByteArray) (p : Nat → Nat) (j : Nat) : Value := .string (t.extract (p j) (p (j + 1)))
def fLine (t : ByteArray) (p : Nat → Nat) (j : Nat) : Value := .int .i64 (nl t 0 (p j))
def fEnd (t : ByteArray) (p : Nat → Nat) (j : Nat) : Value := .int .i64 (nl t (p j) (p (j + 1)))

def Apart2 (x y : Value) : Prop := ∀ g, x.ownBlock = some g → y.ownBlock ≠ some g
theorem Apart2.symm {x y : Value} (h : Apart2 x y) : Apart2 y x := fun g h1 h2 => h g h2 h1

theorem own_lt {w : World} {base : Nat} {e : TypeId} {size : Nat} {v : Value} {n : Nat} {xs : List Value} (h : w.ownsRow base e size v n xs) : ∀ g, v.ownBlock = some g → base ≤ g ∧ g < w.heap.size := by
  intro g hg
  rcases h.2 with ⟨rfl, _⟩ | ⟨g', cap, cur, rfl, hb, hh, _⟩
  · simp [Value.ownBlock] at hg
  · simp [Value.ownBlock] at hg; subst hg; exact ⟨hb, (Array.getElem?_eq_some_iff.1 hh).1⟩

/-- What an append to x does to another row y of the call's own. -/
theorem other_kept {w w' : World} {base : Nat} {e : TypeId} {x x' y : Value} {m : Nat} {ys : List Value} (hy : w.ownsRow base e 1 y m ys) (ha : Apart2 x y) (hg : w.grownBy w' x.ownBlock) (hl : x'.ownBlock = x.ownBlock ∨ x'.ownBlock = some w.heap.size) : w'.ownsRow base e 1 y m ys ∧ Apart2 x' y := by
  refine ⟨hy.kept hg ?_, ?_⟩
  · cases hyb : y.ownBlock with
    | none => exact .inl rfl
    | some g => exact .inr (fun h => ha g h.symm hyb)
  · intro g h1 h2
    rcases hl with h | h
    · rw [h] at h1; exact ha g h1 h2
    · rw [h] at h1; cases h1; have := (own_lt hy _ h2).2; omega

theorem one_cell (w : World) (v : Value) (T : TypeId) : ∀ (j : Nat) u, [v][j]? = some u → (w.alloc (.cells #[v] T)).cell? ((⟨w.heap.size, 0, none⟩ : Addr).add j) = some u := by
  intro j u h
  match j, h with
  | 0, h => simp at h; subst h; simp [Addr.add]
  | j + 1, h => simp at h
theorem one_str (s : ByteArray) : ∀ u ∈ [Value.string s], u.oneCell' = true := by
  intro u hu; simp at hu; subst hu; rfl
theorem one_int (a : Int) : ∀ u ∈ [Value.int .i64 a], u.oneCell' = true := by
  intro u hu; simp at hu; subst hu; rfl

/-- What ZZCut's loop carries: of the pieces j1 texts, j2 lines, j3 ends spread. -/
structure ZInv (t : ByteArray) (p : Nat → Nat) (w1 : World) (j1 j2 j3 : Nat) (a b c : Value) (wr : World) : Prop where
  texts : wr.ownsRow w1.heap.size 9 1 a j1 (rowV (fText t p) j1)
  lines : wr.ownsRow w1.heap.size 3 1 b j2 (rowV (fLine t p) j2)
  ends : wr.ownsRow w1.heap.size 3 1 c j3 (rowV (fEnd t p) j3)
  ab : Apart2 a b
  ac : Apart2 a c
  bc : Apart2 b c
  below : Below w1.heap.size w1 wr

theorem ZInv.start (t : ByteArray) (p : Nat → Nat) (w1 : World) : ZInv t p w1 0 0 0 (.slice none 0 0) (.slice none 0 0) (.slice none 0 0) w1 :=
  ⟨World.ownsRow_nil _ _ _ _, World.ownsRow_nil _ _ _ _, World.ownsRow_nil _ _ _ _, fun g h => by simp [Value.ownBlock] at h, fun g h => by simp [Value.ownBlock] at h, fun g h => by simp [Value.ownBlock] at h, Below.refl _ _⟩

theorem below_app {w1 wr w2 : World} {e : TypeId} {x : Value} {m : Nat} {xs : List Value} {o : Obj} (hB : Below w1.heap.size w1 wr) (hx : wr.ownsRow w1.heap.size e 1 x m xs) (hg : (wr.alloc o).grownBy w2 x.ownBlock) : Below w1.heap.size w1 w2 :=
  (hB.alloc hB.size o).grown hg (by have := hB.size; simp; omega) (fun k hk => (own_lt hx k hk).1)

theorem ZInv.text {t : ByteArray} {p : Nat → Nat} {w1 : World} {j1 j2 j3 : Nat} {a b c a' : Value} {wr w2 : World} {o : Obj} (h : ZInv t p w1 j1 j2 j3 a b c wr) (ho : w2.ownsRow w1.heap.size 9 1 a' (j1 + 1) (rowV (fText t p) j1 ++ [fText t p j1])) (hg : (wr.alloc o).grownBy w2 a.ownBlock) (hl : a'.ownBlock = a.ownBlock ∨ a'.ownBlock = some (wr.alloc o).heap.size) :
    ZInv t p w1 (j1 + 1) j2 j3 a' b c w2 := by
  have h1 := other_kept (h.lines.alloc o) h.ab hg hl
  have h2 := other_kept (h.ends.alloc o) h.ac hg hl
  exact ⟨by rw [rowV_succ]; exact ho, h1.1, h2.1, h1.2, h2.2, h.bc, below_app h.below h.texts hg⟩

theorem ZInv.line {t : ByteArray} {p : Nat → Nat} {w1 : World} {j1 j2 j3 : Nat} {a b c b' : Value} {wr w2 : World} {o : Obj} (h : ZInv t p w1 j1 j2 j3 a b c wr) (ho : w2.ownsRow w1.heap.size 3 1 b' (j2 + 1) (rowV (fLine t p) j2 ++ [fLine t p j2])) (hg : (wr.alloc o).grownBy w2 b.ownBlock) (hl : b'.ownBlock = b.ownBlock ∨ b'.ownBlock = some (wr.alloc o).heap.size) :
    ZInv t p w1 j1 (j2 + 1) j3 a b' c w2 := by
  have h1 := other_kept (h.texts.alloc o) h.ab.symm hg hl
  have h2 := other_kept (h.ends.alloc o) h.bc hg hl
  exact ⟨h1.1, by rw [rowV_succ]; exact ho, h2.1, h1.2.symm, h.ac, h2.2, below_app h.below h.lines hg⟩

theorem ZInv.theEnd {t : ByteArray} {p : Nat → Nat} {w1 : World} {j1 j2 j3 : Nat} {a b c c' : Value} {wr w2 : World} {o : Obj} (h : ZInv t p w1 j1 j2 j3 a b c wr) (ho : w2.ownsRow w1.heap.size 3 1 c' (j3 + 1) (rowV (fEnd t p) j3 ++ [fEnd t p j3])) (hg : (wr.alloc o).grownBy w2 c.ownBlock) (hl : c'.ownBlock = c.ownBlock ∨ c'.ownBlock = some (wr.alloc o).heap.size) :
    ZInv t p w1 j1 j2 (j3 + 1) a b c' w2 := by
  have h1 := other_kept (h.texts.alloc o) h.ac.symm hg hl
  have h2 := other_kept (h.lines.alloc o) h.bc.symm hg hl
  exact ⟨h1.1, h2.1, by rw [rowV_succ]; exact ho, h.ab, h1.2.symm, h2.2.symm, below_app h.below h.ends hg⟩
end Go.Proofs.Qxb6001224a
