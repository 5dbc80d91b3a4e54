import Derived.Test.Qxb6001736aBLib
import Derived.Maps.AppendAt
namespace Go.Proofs.Qxb6001736a
open Go.RowKit Go.ChangeShapes
set_option linter.unusedVariables false
set_option linter.unusedSimpArgs false

/-- One byte appended, at the operation. -/
theorem append_byte {w : World} {T : TypeId} {ops : Array Oper} {rest : List Oper} {o : Oper} {a : Act} {Q : Exit → Act → World → Prop} (hgd : o.guard = none) (s x : Operand)
    (ho : o.op = .call { callee := .builtin .append, args := #[s, x], argTypes := #[22, 22] }) (B : Nat) (v : Value) (L : List Int) (c : Int) (hs : a.eval s = v)
    (hx : a.eval x = .slice (some ⟨w.heap.size, 0, none⟩) 1 1) (own : Hid (OwnB w B v L)) (hL : L.length ≤ 900000000000) (hB : B ≤ w.heap.size)
    (h : ∀ v' w' L', Hid (L' = L ++ [c]) → L'.length ≤ L.length + 1 → L.length + 1 ≤ L'.length → w.heap.size ≤ w'.heap.size → Hid (Grew w B v L v' L' w') → wpList Try.prog ops Q rest (a.put o.dst v') w') :
    wpList Try.prog ops Q (o :: rest) a (w.alloc (.cells #[.int .u8 c] T)) := by
  obtain ⟨i5, h5, hz50, hz51, hz52⟩ := info_parts Try.info5
  refine wpList_append_own_at _ hgd s x 22 ho B 5 i5 _ 1 1 Try.underlying22 h5 hz50 hz51 hz52 rfl (by decide) v L.length _ hs (own.out.own.alloc _) ⟨w.heap.size, 0, none⟩ 1 1 [.int .u8 c] hx rfl (one_cell _ _ _) (one_byte _ _) (by unfold maxLen; omega) (by omega) (by simp; omega) ?_
  intro v1 w1 ho1 hg1 _ hl1
  have g : Grew w B v L v1 (L ++ [c]) w1 := grew_one ho1 hg1 hl1
  exact h v1 w1 (L ++ [c]) rfl (by simp) (by simp) g.grown.size g

/-- A run of number bytes written behind L. -/
def Numg (w : World) (B : Nat) (v : Value) (L L' : List Int) (v' : Value) (w' : World) : Prop :=
  Grew w B v L v' L' w' ∧ ∃ news, L' = L ++ news ∧ 1 ≤ news.length ∧ ∀ c ∈ news, isNum c = true
theorem Numg.trans {w w1 w2 : World} {B : Nat} {v v1 v2 : Value} {L L1 L2 : List Int} (h : Hid (Numg w B v L L1 v1 w1)) (k : Hid (Numg w1 B v1 L1 L2 v2 w2)) : Hid (Numg w B v L L2 v2 w2) := by
  obtain ⟨g, a, rfl, la, ha⟩ := h.out
  obtain ⟨g2, b, rfl, lb, hb⟩ := k.out
  refine ⟨g.trans g2, a ++ b, by simp, by simp; omega, fun c hc => ?_⟩
  rcases List.mem_append.1 hc with h | h
  · exact ha c h
  · exact hb c h
theorem Numg.byte {w w1 w2 : World} {B : Nat} {v v1 v2 : Value} {L L1 L2 : List Int} {c : Int} (h : Hid (Numg w B v L L1 v1 w1)) (e : Hid (L2 = L1 ++ [c])) (k : Hid (Grew w1 B v1 L1 v2 L2 w2)) (hc : isNum c = true) : Hid (Numg w B v L L2 v2 w2) :=
  Numg.trans h (show Numg _ _ _ _ _ _ _ from ⟨k.out, [c], e.out, by simp, fun x hx => by simp at hx; subst hx; exact hc⟩)
theorem Numg.own {w w1 : World} {B : Nat} {v v1 : Value} {L L1 : List Int} (h : Hid (Numg w B v L L1 v1 w1)) : Hid (OwnB w1 B v1 L1) := h.out.1.own
theorem Numg.owns {w w1 : World} {B : Nat} {v v1 : Value} {L L1 : List Int} (h : Hid (Numg w B v L L1 v1 w1)) : Hid (w1.ownsRow B 5 1 v1 L1.length (L1.map (Value.int .u8))) := h.out.1.own

theorem numg_app {w : World} {B : Nat} {v : Value} {L : List Int} {m : Nat} {R : List Int → Prop} {x : Ending} {w' : World} (hR : ∀ l, R l → Nums m l) (h : AppPost w B v L.length (L.map (Value.int .u8)) R x w') :
    ∃ v' L', x = .returned v' ∧ L'.length ≤ L.length + m ∧ L.length + 1 ≤ L'.length ∧ w.heap.size ≤ w'.heap.size ∧ Hid (Numg w B v L L' v' w') := by
  obtain ⟨v', news, rfl, hr, g⟩ := grew_app h
  have hn := hR _ hr
  exact ⟨v', L ++ news, rfl, by have := hn.2.1; simp; omega, by have := hn.1; simp; omega, g.grown.size, g, news, rfl, hn.1, hn.2.2⟩

/-- What a token's case of the switch leaves. -/
def Wrote (w : World) (B : Nat) (v : Value) (L : List Int) (v' : Value) (k : Int) (w' : World) : Prop :=
  ∃ news, Grew w B v L v' (L ++ news) w' ∧ TokB news k ∧ (∀ x ∈ news, 0 ≤ x ∧ x ≤ 255) ∧ news.length ≤ 2100000

theorem isNum_byte (c : Int) (h : isNum c = true) : 0 ≤ c ∧ c ≤ 255 := by
  simp [isNum] at h; omega
theorem Numg.wrote {w w1 : World} {B : Nat} {v v1 : Value} {L L1 : List Int} (h : Hid (Numg w B v L L1 v1 w1)) (hl : L1.length ≤ L.length + 1000) : Hid (Wrote w B v L v1 48 w1) := by
  obtain ⟨g, a, rfl, la, ha⟩ := h.out
  rw [List.length_append] at hl
  exact ⟨a, g, .inr (.inr (.inr (.inr ⟨rfl, la, ha⟩))), fun x hx => isNum_byte x (ha x hx), by omega⟩
theorem wrote_one {w w1 : World} {B : Nat} {v v1 : Value} {L L1 : List Int} {k : Int} (e : Hid (L1 = L ++ [k])) (g : Hid (Grew w B v L v1 L1 w1)) (hk : k = 123 ∨ k = 125 ∨ k = 91 ∨ k = 93) : Hid (Wrote w B v L v1 k w1) := by
  have g' := g.out
  rw [e.out] at g'
  exact ⟨[k], g', .inl ⟨hk, rfl⟩, fun x hx => by simp at hx; omega, by simp⟩
theorem wrote_text {w w1 : World} {B : Nat} {v v1 : Value} {L : List Int} {s : ByteArray} {k : Int} (g : Hid (Grew w B v L v1 (L ++ bytesOf s) w1)) (hk : (k = 116 ∨ k = 110) ∧ (bytesOf s).length = 4 ∧ (bytesOf s).head? = some k ∨ k = 102 ∧ (bytesOf s).length = 5 ∧ (bytesOf s).head? = some 102) : Hid (Wrote w B v L v1 k w1) := by
  refine ⟨bytesOf s, g.out, ?_, fun x hx => ?_, by rcases hk with h | h <;> omega⟩
  · rcases hk with h | h
    · exact .inr (.inr (.inl h))
    · exact .inr (.inr (.inr (.inl h)))
  · simp only [bytesOf, List.mem_map] at hx
    obtain ⟨b, _, rfl⟩ := hx
    have := b.toNat_lt
    omega

/-- A string's bytes up to k, escaped, behind its first quote. -/
def Strg (w : World) (B : Nat) (v : Value) (L : List Int) (S : ByteArray) (k : Nat) (L' : List Int) (v' : Value) (w' : World) : Prop :=
  Grew w B v L v' L' w' ∧ L' = L ++ 34 :: esc ((bytesOf S).take k)
theorem Strg.own {w w1 : World} {B : Nat} {v v1 : Value} {L L1 : List Int} {S : ByteArray} {k : Nat} (h : Hid (Strg w B v L S k L1 v1 w1)) : Hid (OwnB w1 B v1 L1) := h.out.1.own
theorem strg_start {w w1 : World} {B : Nat} {v v1 : Value} {L L1 : List Int} (S : ByteArray) (e : Hid (L1 = L ++ [34])) (g : Hid (Grew w B v L v1 L1 w1)) : Hid (Strg w B v L S 0 L1 v1 w1) :=
  ⟨g.out, by rw [e.out]; rfl⟩
theorem Strg.plain {w w1 w2 : World} {B : Nat} {v v1 v2 : Value} {L L1 L2 : List Int} {S : ByteArray} {k : Nat} {c : Int} (h : Hid (Strg w B v L S k L1 v1 w1)) (hk : k < S.size) (hc : c = ((S[k]'hk).toNat : Int)) (h1 : c ≠ 34) (h2 : c ≠ 92)
    (e : Hid (L2 = L1 ++ [c])) (g : Hid (Grew w1 B v1 L1 v2 L2 w2)) : Hid (Strg w B v L S (k + 1) L2 v2 w2) := by
  refine ⟨h.out.1.trans g.out, ?_⟩
  rw [e.out, h.out.2, bytesOf_take S k hk, esc_append, ← hc]
  have : esc [c] = [c] := by simp [esc, h1, h2]
  rw [this]; simp
theorem Strg.escd {w w1 w2 w3 : World} {B : Nat} {v v1 v2 v3 : Value} {L L1 L2 L3 : List Int} {S : ByteArray} {k : Nat} {c : Int} (h : Hid (Strg w B v L S k L1 v1 w1)) (hk : k < S.size) (hc : c = ((S[k]'hk).toNat : Int)) (h1 : c = 34 ∨ c = 92)
    (e : Hid (L2 = L1 ++ [92])) (g : Hid (Grew w1 B v1 L1 v2 L2 w2)) (e2 : Hid (L3 = L2 ++ [c])) (g2 : Hid (Grew w2 B v2 L2 v3 L3 w3)) : Hid (Strg w B v L S (k + 1) L3 v3 w3) := by
  refine ⟨(h.out.1.trans g.out).trans g2.out, ?_⟩
  rw [e2.out, e.out, h.out.2, bytesOf_take S k hk, esc_append, ← hc]
  have : esc [c] = [92, c] := by simp [esc, h1]
  rw [this]; simp
theorem esc_bytes : ∀ (l : List Int), (∀ x ∈ l, 0 ≤ x ∧ x ≤ 255) → ∀ x ∈ esc l, 0 ≤ x ∧ x ≤ 255
  | [], _, x, hx => by simp [esc] at hx
  | c :: l, h, x, hx => by
    have ih := esc_bytes l (fun y hy => h y (List.mem_cons_of_mem _ hy))
    have hc := h c (List.mem_cons_self ..)
    simp only [esc] at hx
    split at hx
    · rcases List.mem_cons.1 hx with rfl | hx
      · omega
      · rcases List.mem_cons.1 hx with rfl | hx
        · exact hc
        · exact ih x hx
    · rcases List.mem_cons.1 hx with rfl | hx
      · exact hc
      · exact ih x hx
theorem bytesOf_range (s : ByteArray) : ∀ x ∈ bytesOf s, 0 ≤ x ∧ x ≤ 255 := by
  intro x hx
  simp only [bytesOf, List.mem_map] at hx
  obtain ⟨b, _, rfl⟩ := hx
  have := b.toNat_lt
  omega
theorem Strg.wrote {w w1 w2 : World} {B : Nat} {v v1 v2 : Value} {L L1 L2 : List Int} {S : ByteArray} {k : Nat} (h : Hid (Strg w B v L S k L1 v1 w1)) (hS : S.size ≤ 1048576)
    (e : Hid (L2 = L1 ++ [34])) (g : Hid (Grew w1 B v1 L1 v2 L2 w2)) : Hid (Wrote w B v L v2 34 w2) := by
  have g' := h.out.1.trans g.out
  rw [e.out, h.out.2] at g'
  have el := esc_length ((bytesOf S).take k)
  have tl : ((bytesOf S).take k).length ≤ S.size := by rw [List.length_take, bytesOf_length]; omega
  have hr : ∀ x ∈ (bytesOf S).take k, 0 ≤ x ∧ x ≤ 255 := fun x hx => bytesOf_range S x (List.mem_of_mem_take hx)
  refine ⟨34 :: (esc ((bytesOf S).take k) ++ [34]), by simpa using g', .inr (.inl ⟨rfl, _, rfl⟩), fun x hx => ?_, by simp; omega⟩
  rcases List.mem_cons.1 hx with rfl | hx
  · omega
  · rcases List.mem_append.1 hx with hx | hx
    · exact esc_bytes _ hr x hx
    · simp at hx; omega
/-- An empty string. -/
theorem strg_none {w w1 w2 : World} {B : Nat} {v v1 v2 : Value} {L L1 L2 : List Int} (e1 : Hid (L1 = L ++ [34])) (g1 : Hid (Grew w B v L v1 L1 w1)) (e : Hid (L2 = L1 ++ [34])) (g : Hid (Grew w1 B v1 L1 v2 L2 w2)) : Hid (Wrote w B v L v2 34 w2) :=
  Strg.wrote (strg_start ByteArray.empty e1 g1) (by decide) e g

/-- The round's end: the rows behind the token's own bytes. -/
theorem Wrote.binv {w0 w1 w2 : World} {v v2 : Value} {L L1 : List Int} {kv : Value} {kl : List Int} {sv : Value} {sl : List Int} {ev : Value} {el : List Int} {k c : Int} {i : Nat} {E : Nat → Nat} {K : Nat → Int} (h : Hid (Wrote w1 w0.heap.size v L1 v2 k w2)) (hB : Hid (BInv w0 v L1 kv kl sv sl ev el w1)) (hT : Hid (Toks L i E K)) (hc : Hid (isSep c = true)) (e : Hid (L1 = L ++ [c])) :
    ∃ L2 : List Int, L2.length ≤ L1.length + 2100000 ∧ Hid (Toks L2 (i + 1) (withE E i L2.length) (withK K i k)) ∧ Hid (BInv w0 v2 L2 kv kl sv sl ev el w2) := by
  obtain ⟨news, g, ht, hb, hl⟩ := h.out
  have hb' := hB.out.grew g
  refine ⟨L1 ++ news, by simp; omega, ?_, hb'⟩
  show Toks _ _ _ _
  rw [e.out]
  exact hT.out.step hc.out ht hb
/-- The three rows beside the text: one entry appended, at the operation. -/
theorem append_kind {w0 w : World} {T : TypeId} {ops : Array Oper} {rest : List Oper} {o : Oper} {a : Act} {Q : Exit → Act → World → Prop} {d kv sv ev : Value} {L kl sl el : List Int} (hgd : o.guard = none) (s x : Operand)
    (ho : o.op = .call { callee := .builtin .append, args := #[s, x], argTypes := #[22, 22] }) (c : Int) (hs : a.eval s = kv)
    (hx : a.eval x = .slice (some ⟨w.heap.size, 0, none⟩) 1 1) (hB : Hid (BInv w0 d L kv kl sv sl ev el w)) (hl : kl.length ≤ 1000000)
    (h : ∀ v' w', Hid (BInv w0 d L v' (kl ++ [c]) sv sl ev el w') → wpList Try.prog ops Q rest (a.put o.dst v') w') :
    wpList Try.prog ops Q (o :: rest) a (w.alloc (.cells #[.int .u8 c] T)) := by
  obtain ⟨i5, h5, hz50, hz51, hz52⟩ := info_parts Try.info5
  have hz := hB.out.below.size
  refine wpList_append_own_at _ hgd s x 22 ho w0.heap.size 5 i5 _ 1 1 Try.underlying22 h5 hz50 hz51 hz52 rfl (by decide) kv kl.length _ hs (hB.out.kinds.own.alloc _) ⟨w.heap.size, 0, none⟩ 1 1 [.int .u8 c] hx rfl (one_cell _ _ _) (one_byte _ _) (by unfold maxLen; omega) (by omega) (by simp; omega) ?_
  intro v1 w1 ho1 hg1 _ hl1
  exact h v1 w1 (hB.out.kind ho1 hg1 hl1)
theorem append_start {w0 w : World} {T : TypeId} {ops : Array Oper} {rest : List Oper} {o : Oper} {a : Act} {Q : Exit → Act → World → Prop} {d kv sv ev : Value} {L kl sl el : List Int} (hgd : o.guard = none) (s x : Operand)
    (ho : o.op = .call { callee := .builtin .append, args := #[s, x], argTypes := #[30, 30] }) (c : Int) (hs : a.eval s = sv)
    (hx : a.eval x = .slice (some ⟨w.heap.size, 0, none⟩) 1 1) (hB : Hid (BInv w0 d L kv kl sv sl ev el w)) (hl : sl.length ≤ 1000000)
    (h : ∀ v' w', Hid (BInv w0 d L kv kl v' (sl ++ [c]) ev el w') → wpList Try.prog ops Q rest (a.put o.dst v') w') :
    wpList Try.prog ops Q (o :: rest) a (w.alloc (.cells #[.int .i64 c] T)) := by
  obtain ⟨i3, h3, hz30, hz31, hz32⟩ := info_parts Try.info3
  have hz := hB.out.below.size
  refine wpList_append_own_at _ hgd s x 30 ho w0.heap.size 3 i3 _ 1 8 Try.underlying30 h3 hz30 hz31 hz32 rfl (by decide) sv sl.length _ hs (hB.out.starts.own.alloc _) ⟨w.heap.size, 0, none⟩ 1 1 [.int .i64 c] hx rfl (one_cell _ _ _) (one_byte _ _) (by unfold maxLen; omega) (by omega) (by simp; omega) ?_
  intro v1 w1 ho1 hg1 _ hl1
  exact h v1 w1 (hB.out.startAt ho1 hg1 hl1)
theorem append_end {w0 w : World} {T : TypeId} {ops : Array Oper} {rest : List Oper} {o : Oper} {a : Act} {Q : Exit → Act → World → Prop} {d kv sv ev : Value} {L kl sl el : List Int} (hgd : o.guard = none) (s x : Operand)
    (ho : o.op = .call { callee := .builtin .append, args := #[s, x], argTypes := #[30, 30] }) (c : Int) (hs : a.eval s = ev)
    (hx : a.eval x = .slice (some ⟨w.heap.size, 0, none⟩) 1 1) (hB : Hid (BInv w0 d L kv kl sv sl ev el w)) (hl : el.length ≤ 1000000)
    (h : ∀ v' w', Hid (BInv w0 d L kv kl sv sl v' (el ++ [c]) w') → wpList Try.prog ops Q rest (a.put o.dst v') w') :
    wpList Try.prog ops Q (o :: rest) a (w.alloc (.cells #[.int .i64 c] T)) := by
  obtain ⟨i3, h3, hz30, hz31, hz32⟩ := info_parts Try.info3
  have hz := hB.out.below.size
  refine wpList_append_own_at _ hgd s x 30 ho w0.heap.size 3 i3 _ 1 8 Try.underlying30 h3 hz30 hz31 hz32 rfl (by decide) ev el.length _ hs (hB.out.ends.own.alloc _) ⟨w.heap.size, 0, none⟩ 1 1 [.int .i64 c] hx rfl (one_cell _ _ _) (one_byte _ _) (by unfold maxLen; omega) (by omega) (by simp; omega) ?_
  intro v1 w1 ho1 hg1 _ hl1
  exact h v1 w1 (hB.out.endAt ho1 hg1 hl1)
end Go.Proofs.Qxb6001736a
