import Derived.Test.Qxb6001736aText
import Derived.Test.Qxb6001736aTok
import Derived.Laws.MakeOwn
namespace Go.Proofs.Qxb6001736a
open Go.RowKit Go.ChangeShapes
set_option linter.unusedVariables false
set_option linter.unusedSimpArgs false

theorem Try.info3 : (Try.prog.info? 3).map (fun i => (i.zero, i.size, i.bytes)) = some (some (.int .i64 0), 1, 8) := by kernel_rfl

/-- An input row as it lies behind its clone. -/
structure Inp (w : World) (b : Nat) (ao : Option Addr) (n : Nat) (f : Nat → Value) : Prop where
  ad : 0 < n → ao = some ⟨b, 0, none⟩
  cells : ∀ j, j < n → w.cell? ⟨b, j, none⟩ = some (f j)
theorem Inp.below {w w' : World} {b n : Nat} {ao : Option Addr} {f : Nat → Value} (h : Inp w b ao n f) (hB : Below w.heap.size w w') : Inp w' b ao n f :=
  ⟨h.ad, fun j hj => (hB.cell (p := ⟨b, j, none⟩) (World.block_lt_of_cell? w ⟨b, j, none⟩ (h.cells j hj))).trans (h.cells j hj)⟩

def OwnI (w : World) (base : Nat) (v : Value) (L : List Int) : Prop := w.ownsRow base 3 1 v L.length (L.map (Value.int .i64))
theorem OwnI.own {w : World} {base : Nat} {v : Value} {L : List Int} (h : OwnI w base v L) : w.ownsRow base 3 1 v L.length (L.map (Value.int .i64)) := h
theorem ownI_snoc {w : World} {base : Nat} {v' : Value} {L : List Int} {c : Int} (h : w.ownsRow base 3 1 v' (L.length + 1) (L.map (Value.int .i64) ++ [.int .i64 c])) : OwnI w base v' (L ++ [c]) := by
  unfold OwnI; simpa using h

theorem own_form {w : World} {base : Nat} {e : TypeId} {size : Nat} {v : Value} {n : Nat} {xs : List Value} (h : w.ownsRow base e size v n xs) : ∃ ao cap, v = .slice ao n cap := by
  rcases h.2 with ⟨rfl, rfl⟩ | ⟨g, cap, cur, rfl, _⟩
  · exact ⟨none, 0, rfl⟩
  · exact ⟨_, cap, rfl⟩

def Apart2 (x y : Value) : Prop := ∀ g, x.ownBlock = some g → y.ownBlock ≠ some g
theorem Apart2.symm {x y : Value} (h : Apart2 x y) : Apart2 y x := fun g h1 h2 => h g h2 h1

theorem other_kept {w w' : World} {base : Nat} {e : TypeId} {x x' y : Value} {m : Nat} {ys : List Value} (hy : w.ownsRow base e 1 y m ys) (ha : Apart2 x y) (hg : w.grownBy w' x.ownBlock) (hl : Lies w x x') : w'.ownsRow base e 1 y m ys ∧ Apart2 x' y := by
  refine ⟨hy.kept hg ?_, ?_⟩
  · cases hyb : y.ownBlock with
    | none => exact .inl rfl
    | some g => exact .inr (fun h => ha g h.symm hyb)
  · intro g h1 h2
    rcases hl with h | ⟨g', h, hge⟩
    · rw [h] at h1; exact ha g h1 h2
    · rw [h] at h1; cases h1; have := (own_blocks hy _ h2).2; omega

theorem below_grown {B : Nat} {w0 w w' : World} {e : TypeId} {x : Value} {m : Nat} {xs : List Value} (hB : Below B w0 w) (hs : B ≤ w.heap.size) (hx : w.ownsRow B e 1 x m xs) (hg : w.grownBy w' x.ownBlock) : Below B w0 w' :=
  hB.grown hg hs (fun k hk => (own_blocks hx k hk).1)

/-- The builder's four rows. -/
structure BInv (w0 : World) (d : Value) (L : List Int) (kv : Value) (kl : List Int) (sv : Value) (sl : List Int) (ev : Value) (el : List Int) (wr : World) : Prop where
  data : OwnB wr w0.heap.size d L
  kinds : OwnB wr w0.heap.size kv kl
  starts : OwnI wr w0.heap.size sv sl
  ends : OwnI wr w0.heap.size ev el
  dk : Apart2 d kv
  ds : Apart2 d sv
  de : Apart2 d ev
  ks : Apart2 kv sv
  ke : Apart2 kv ev
  se : Apart2 sv ev
  below : Below w0.heap.size w0 wr

theorem BInv.grew {w0 : World} {d : Value} {L : List Int} {kv : Value} {kl : List Int} {sv : Value} {sl : List Int} {ev : Value} {el : List Int} {wr : World} {d' : Value} {L' : List Int} {w' : World} (h : BInv w0 d L kv kl sv sl ev el wr) (g : Grew wr w0.heap.size d L d' L' w') : BInv w0 d' L' kv kl sv sl ev el w' := by
  have h1 := other_kept h.kinds.own h.dk g.grown g.lies
  have h2 := other_kept h.starts.own h.ds g.grown g.lies
  have h3 := other_kept h.ends.own h.de g.grown g.lies
  exact ⟨g.own, h1.1, h2.1, h3.1, h1.2, h2.2, h3.2, h.ks, h.ke, h.se, below_grown h.below h.below.size h.data.own g.grown⟩

theorem BInv.kind {w0 : World} {d : Value} {L : List Int} {kv : Value} {kl : List Int} {sv : Value} {sl : List Int} {ev : Value} {el : List Int} {wr : World} {kv' : Value} {c : Int} {o : Obj} {w' : World} (h : BInv w0 d L kv kl sv sl ev el wr)
    (ho : w'.ownsRow w0.heap.size 5 1 kv' (kl.length + 1) (kl.map (Value.int .u8) ++ [.int .u8 c])) (hg : (wr.alloc o).grownBy w' kv.ownBlock) (hl : kv'.ownBlock = kv.ownBlock ∨ kv'.ownBlock = some (wr.alloc o).heap.size) : BInv w0 d L kv' (kl ++ [c]) sv sl ev el w' := by
  have g := grown_alloc hg
  have l : Lies wr kv kv' := lies_alloc hl
  have h1 := other_kept h.data.own h.dk.symm g l
  have h2 := other_kept h.starts.own h.ks g l
  have h3 := other_kept h.ends.own h.ke g l
  exact ⟨h1.1, ownB_snoc (wr := wr) ho, h2.1, h3.1, h1.2.symm, h.ds, h.de, h2.2, h3.2, h.se, below_grown h.below h.below.size h.kinds.own g⟩

theorem BInv.startAt {w0 : World} {d : Value} {L : List Int} {kv : Value} {kl : List Int} {sv : Value} {sl : List Int} {ev : Value} {el : List Int} {wr : World} {sv' : Value} {c : Int} {o : Obj} {w' : World} (h : BInv w0 d L kv kl sv sl ev el wr)
    (ho : w'.ownsRow w0.heap.size 3 1 sv' (sl.length + 1) (sl.map (Value.int .i64) ++ [.int .i64 c])) (hg : (wr.alloc o).grownBy w' sv.ownBlock) (hl : sv'.ownBlock = sv.ownBlock ∨ sv'.ownBlock = some (wr.alloc o).heap.size) : BInv w0 d L kv kl sv' (sl ++ [c]) ev el w' := by
  have g := grown_alloc hg
  have l : Lies wr sv sv' := lies_alloc hl
  have h1 := other_kept h.data.own h.ds.symm g l
  have h2 := other_kept h.kinds.own h.ks.symm g l
  have h3 := other_kept h.ends.own h.se g l
  exact ⟨h1.1, h2.1, ownI_snoc ho, h3.1, h.dk, h1.2.symm, h.de, h2.2.symm, h.ke, h3.2, below_grown h.below h.below.size h.starts.own g⟩

theorem BInv.endAt {w0 : World} {d : Value} {L : List Int} {kv : Value} {kl : List Int} {sv : Value} {sl : List Int} {ev : Value} {el : List Int} {wr : World} {ev' : Value} {c : Int} {o : Obj} {w' : World} (h : BInv w0 d L kv kl sv sl ev el wr)
    (ho : w'.ownsRow w0.heap.size 3 1 ev' (el.length + 1) (el.map (Value.int .i64) ++ [.int .i64 c])) (hg : (wr.alloc o).grownBy w' ev.ownBlock) (hl : ev'.ownBlock = ev.ownBlock ∨ ev'.ownBlock = some (wr.alloc o).heap.size) : BInv w0 d L kv kl sv sl ev' (el ++ [c]) w' := by
  have g := grown_alloc hg
  have l : Lies wr ev ev' := lies_alloc hl
  have h1 := other_kept h.data.own h.de.symm g l
  have h2 := other_kept h.kinds.own h.ke.symm g l
  have h3 := other_kept h.starts.own h.se.symm g l
  exact ⟨h1.1, h2.1, h3.1, ownI_snoc ho, h.dk, h.ds, h1.2.symm, h.ks, h2.2.symm, h3.2.symm, below_grown h.below h.below.size h.ends.own g⟩

/-- The three lists beside the text. -/
def kindsOf (K : Nat → Int) (i : Nat) : List Int := (List.range i).map K
def startsOf (E : Nat → Nat) (i : Nat) : List Int := (List.range i).map (fun j => ((E j + 1 : Nat) : Int))
def endsOf (E : Nat → Nat) (i : Nat) : List Int := (List.range i).map (fun j => ((E (j + 1) : Nat) : Int))
theorem kinds_step (K : Nat → Int) (i : Nat) (k : Int) : kindsOf (withK K i k) (i + 1) = kindsOf K i ++ [k] := by
  unfold kindsOf
  rw [List.range_succ, List.map_append]
  congr 1
  · exact List.map_congr_left (fun j hj => withK_lt K i j k (List.mem_range.1 hj))
  · simp [withK_new]
theorem starts_step (E : Nat → Nat) (i e : Nat) : startsOf (withE E i e) (i + 1) = startsOf E i ++ [((E i + 1 : Nat) : Int)] := by
  unfold startsOf
  rw [List.range_succ, List.map_append]
  congr 1
  · exact List.map_congr_left (fun j hj => by rw [withE_le E i e j (by have := List.mem_range.1 hj; omega)])
  · simp [withE_le]
theorem ends_step (E : Nat → Nat) (i e : Nat) : endsOf (withE E i e) (i + 1) = endsOf E i ++ [(e : Int)] := by
  unfold endsOf
  rw [List.range_succ, List.map_append]
  congr 1
  · exact List.map_congr_left (fun j hj => by rw [withE_le E i e (j + 1) (by have := List.mem_range.1 hj; omega)])
  · simp [withE_new]
theorem kinds_len (K : Nat → Int) (i : Nat) : (kindsOf K i).length = i := by simp [kindsOf]
theorem starts_len (E : Nat → Nat) (i : Nat) : (startsOf E i).length = i := by simp [startsOf]
theorem ends_len (E : Nat → Nat) (i : Nat) : (endsOf E i).length = i := by simp [endsOf]
end Go.Proofs.Qxb6001736a
