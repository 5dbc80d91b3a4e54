import Derived.Test.Qxb6001736aApp
namespace Go.Proofs.Qxb6001736a
open Go.RowKit Go.ChangeShapes
set_option linter.unusedVariables false
set_option linter.unusedSimpArgs false

def bytesOf (s : ByteArray) : List Int := s.data.toList.map (fun b => ((b.toNat : Nat) : Int))
theorem bytesOf_take (s : ByteArray) (k : Nat) (h : k < s.size) : (bytesOf s).take (k + 1) = (bytesOf s).take k ++ [((s[k]'h).toNat : Int)] := by
  unfold bytesOf
  rw [← List.map_take, ← List.map_take, List.take_succ_eq_append_getElem (by simpa using h), List.map_append]
  rfl
theorem bytesOf_length (s : ByteArray) : (bytesOf s).length = s.size := by simp [bytesOf]

/-- v owns the bytes L. -/
def OwnB (w : World) (base : Nat) (v : Value) (L : List Int) : Prop := w.ownsRow base 5 1 v L.length (L.map (Value.int .u8))
theorem OwnB.own {w : World} {base : Nat} {v : Value} {L : List Int} (h : OwnB w base v L) : w.ownsRow base 5 1 v L.length (L.map (Value.int .u8)) := h
/-- How a value lies to another that it was made from. -/
def Lies (w : World) (v v' : Value) : Prop := v'.ownBlock = v.ownBlock ∨ ∃ g, v'.ownBlock = some g ∧ w.heap.size ≤ g

theorem ownB_snoc {w wr : World} {base : Nat} {v' : Value} {L : List Int} {c : Int} (h : w.ownsRow base 5 1 v' (L.length + 1) (L.map (Value.int .u8) ++ [.int .u8 c])) : OwnB w base v' (L ++ [c]) := by
  unfold OwnB; simpa using h

/-- An appender that began with L, hidden parts and all. -/
structure Grew (w : World) (base : Nat) (v : Value) (L : List Int) (v' : Value) (L' : List Int) (w' : World) : Prop where
  own : OwnB w' base v' L'
  grown : w.grownBy w' v.ownBlock
  lies : Lies w v v'
  pre : ∃ news, L' = L ++ news

theorem Grew.refl {w : World} {base : Nat} {v : Value} {L : List Int} (h : OwnB w base v L) : Grew w base v L v L w := ⟨h, World.grownBy.refl _ _, .inl rfl, [], by simp⟩

theorem Grew.trans {w w1 w2 : World} {base : Nat} {v v1 v2 : Value} {L L1 L2 : List Int} (h : Grew w base v L v1 L1 w1) (k : Grew w1 base v1 L1 v2 L2 w2) : Grew w base v L v2 L2 w2 := by
  refine ⟨k.own, ?_, ?_, ?_⟩
  · refine ⟨k.grown.os.trans h.grown.os, k.grown.tape.trans h.grown.tape, k.grown.output.trans h.grown.output, Nat.le_trans h.grown.size k.grown.size, fun i h1 h2 => ?_⟩
    rw [k.grown.block i (Nat.lt_of_lt_of_le h1 h.grown.size) ?_, h.grown.block i h1 h2]
    rcases h.lies with e | ⟨g, e, hge⟩
    · rw [e]; exact h2
    · rw [e]; intro e'; cases e'; omega
  · rcases k.lies with e | ⟨g, e, hge⟩
    · rcases h.lies with e2 | e2
      · exact .inl (e.trans e2)
      · obtain ⟨g, e3, hge⟩ := e2
        exact .inr ⟨g, e.trans e3, hge⟩
    · exact .inr ⟨g, e, Nat.le_trans h.grown.size hge⟩
  · obtain ⟨a, rfl⟩ := h.pre
    obtain ⟨b, rfl⟩ := k.pre
    exact ⟨a ++ b, by simp⟩

/-- One byte appended. -/
theorem grew_one {w w2 : World} {base : Nat} {v v2 : Value} {L : List Int} {c : Int} {o : Obj} (ho : w2.ownsRow base 5 1 v2 (L.length + 1) (L.map (Value.int .u8) ++ [.int .u8 c])) (hg : (w.alloc o).grownBy w2 v.ownBlock) (hl : v2.ownBlock = v.ownBlock ∨ v2.ownBlock = some (w.alloc o).heap.size) : Grew w base v L v2 (L ++ [c]) w2 :=
  ⟨ownB_snoc (wr := w) ho, grown_alloc hg, lies_alloc hl, [c], rfl⟩

theorem grew_app {w : World} {base : Nat} {v : Value} {L : List Int} {R : List Int → Prop} {x : Ending} {w' : World} (h : AppPost w base v L.length (L.map (Value.int .u8)) R x w') : ∃ v' news, x = .returned v' ∧ R news ∧ Grew w base v L v' (L ++ news) w' := by
  obtain ⟨v', news, rfl, hr, ho, hg, hl⟩ := h
  exact ⟨v', news, rfl, hr, by unfold OwnB; simpa using ho, hg, hl, news, rfl⟩

set_option maxRecDepth 1000000 in
set_option maxHeartbeats 2000000 in
theorem text_any (w : World) (base : Nat) (v : Value) (s : ByteArray) (L : List Int) (hs : s.size ≤ 100) (hn : L.length ≤ 900000000000) (hown : Hid (OwnB w base v L)) (hb : base ≤ w.heap.size) :
    Calls Try.prog 25 #[v, .string s] w fun x w' => ∃ v', x = .returned v' ∧ Hid (Grew w base v L v' (L ++ bytesOf s) w') := by
  go_enter Try.func25, Try.ntmps25
  go_wp2_with fail
  go_loopg [0, 5] s.size (fun g v1 i wr => ∃ (j : Nat) (L1 : List Int), j ≤ s.size ∧ g = s.size - j ∧ i = .int .i64 j ∧ L1.length ≤ 900000000100 ∧ Hid (Grew w base v L v1 L1 wr) ∧ Hid (L1 = L ++ (bytesOf s).take j))
  case atStart => exact ⟨0, L, Nat.zero_le _, rfl, rfl, by omega, Grew.refl hown.out, by show _ = _; simp⟩
  case round =>
    obtain ⟨j, L1, hj, rfl, rfl, hL1, HG, HL⟩ := hrel
    have hsz := HG.out.grown.size
    by_cases hlt : j < s.size
    · obtain ⟨i5, h5, hz0, hz1, hz2⟩ := info_parts Try.info5
      obtain ⟨c, hc⟩ : ∃ c, s[j]'hlt = c := ⟨_, rfl⟩
      obtain ⟨L2, hL2⟩ : ∃ L2, L2 = L1 ++ [((c.toNat : Nat) : Int)] := ⟨_, rfl⟩
      have HL2 : Hid (L2 = L1 ++ [((c.toNat : Nat) : Int)]) := hL2
      have HE : Hid (L2 = L ++ (bytesOf s).take (j + 1)) := by
        show _ = _
        rw [hL2, HL.out, bytesOf_take s j hlt, hc, List.append_assoc]
      have hlen : L2.length ≤ 900000000100 := by rw [HE.out]; simp [bytesOf_length]; omega
      clear hL2
      go_wp2_with (at_builtin; refine wpList_append_own_at _ rfl (.tmp 12) (.tmp 16) 22 rfl base 5 i5 _ 1 1 Try.underlying22 h5 hz0 hz1 hz2 rfl (by decide) _ L1.length _ rfl (HG.out.own.own.alloc _) ⟨wr.heap.size, 0, none⟩ 1 1 [.int .u8 c.toNat] rfl rfl (one_cell _ _ _) (one_byte _ _) (by unfold maxLen; omega) (by omega) (by simp; omega) ?_; intro v2 w2 ho2 hg2 _ hl2; have HG2 : Hid (Grew w base v L v2 L2 w2) := (by rw [HL2.out]; exact HG.out.trans (grew_one ho2 hg2 hl2)); clear ho2 hg2 hl2)
      go_roundg (s.size - (j + 1))
      case measure => omega
      case rel => exact ⟨j + 1, L2, by omega, rfl, by go_num, hlen, HG2, HE⟩
    · have HA : Hid (Grew w base v L u0 (L ++ bytesOf s) wr) := by
        have ht : (bytesOf s).take j = bytesOf s := List.take_of_length_le (by rw [bytesOf_length]; omega)
        have h1 := HG.out
        rw [HL.out, ht] at h1
        exact h1
      clear HG HL
      go_wp2_with fail
      go_ret
      exact ⟨_, rfl, HA⟩
end Go.Proofs.Qxb6001736a
