import Derived.Test.Qxb6001736aSkip
import Derived.Deep.DeepCutAuto
import Derived.Deep.CutBlock
import Derived.Maps.AppendAt
namespace Go.Proofs.Qxb6001736a
open Go.RowKit Go.ChangeShapes
set_option linter.unusedVariables false
set_option linter.unusedSimpArgs false

theorem sep_any (w : World) (v : Int) (h0 : 0 ≤ v) (h1 : v ≤ 255) : Calls Try.prog 21 #[.int .u8 v] w fun x w' => (∃ c : Int, x = .returned (.int .u8 c) ∧ isSep c = true) ∧ w' = w := by
  rcases (show v % 6 = 0 ∨ v % 6 = 1 ∨ v % 6 = 2 ∨ v % 6 = 3 ∨ v % 6 = 4 ∨ v % 6 = 5 by omega) with h | h | h | h | h | h
  all_goals
    go_enter Try.func21, Try.ntmps21
    go_wp2
    go_ret
    exact ⟨⟨_, rfl, by decide⟩, rfl⟩

theorem ret_int {k : IntKind} {a b : Int} (h : a = b) : Ending.returned (.int k a) = .returned (.int k b) := by rw [h]

theorem mag_any (w : World) (n : Int) (h0 : -9223372036854775808 ≤ n) (h1 : n ≤ 9223372036854775807) : Calls Try.prog 23 #[.int .i64 n] w fun x w' => (∃ u : Nat, x = .returned (.int .u64 u) ∧ u < 10000000000000000000) ∧ w' = w := by
  by_cases hn : n < 0
  · go_enter Try.func23, Try.ntmps23
    go_wp2
    go_ret
    exact ⟨⟨(-(n + 1) + 1).toNat, ret_int (by omega), by omega⟩, rfl⟩
  · go_enter Try.func23, Try.ntmps23
    go_wp2
    go_ret
    exact ⟨⟨n.toNat, ret_int (by omega), by omega⟩, rfl⟩

/-- What an appender leaves: the bytes news behind the old ones. -/
def AppPost (w : World) (base : Nat) (v : Value) (n : Nat) (xs : List Value) (R : List Int → Prop) (x : Ending) (w' : World) : Prop :=
  ∃ (v' : Value) (news : List Int), x = .returned v' ∧ R news ∧ Hid (w'.ownsRow base 5 1 v' (n + news.length) (xs ++ news.map (Value.int .u8)) ∧ w.grownBy w' v.ownBlock ∧ (v'.ownBlock = v.ownBlock ∨ ∃ g, v'.ownBlock = some g ∧ w.heap.size ≤ g))

theorem Try.info5 : (Try.prog.info? 5).map (fun i => (i.zero, i.size, i.bytes)) = some (some (.int .u8 0), 1, 1) := by kernel_rfl

def Digits (news : List Int) : Prop := 1 ≤ news.length ∧ news.length ≤ 20 ∧ ∀ c ∈ news, 48 ≤ c ∧ c ≤ 57

theorem own_below {w w' : World} {base : Nat} {e : TypeId} {size : Nat} {v : Value} {n : Nat} {xs : List Value} (h : w.ownsRow base e size v n xs) (hB : Below w.heap.size w w') : w'.ownsRow base e size v n xs := by
  refine ⟨h.1, ?_⟩
  rcases h.2 with hn | ⟨g, cap, cur, rfl, hb, hgg, rest⟩
  · exact .inl hn
  · exact .inr ⟨g, cap, cur, rfl, hb, (hB.block g (Array.getElem?_eq_some_iff.1 hgg).1).trans hgg, rest⟩

theorem grown_after {w wr w2 : World} {row : Option Nat} (hB : Below w.heap.size w wr) (hg : wr.grownBy w2 row) : w.grownBy w2 row :=
  ⟨hg.os.trans hB.os, hg.tape.trans hB.tape, hg.output.trans hB.output, Nat.le_trans hB.size hg.size, fun k h1 h2 => (hg.block k (Nat.lt_of_lt_of_le h1 hB.size) h2).trans (hB.block k h1)⟩

def fromTo (f : Nat → Int) (j m : Nat) : List Int := (List.range m).map (fun i => f (j + i))
theorem fromTo_length (f : Nat → Int) (j m : Nat) : (fromTo f j m).length = m := by simp [fromTo]
theorem fromTo_cells {w : World} {N T j m k : Nat} {f : Nat → Int} (h : w.rowIs N T k (fun i => .int .u8 (f i))) (hm : j + m ≤ k) : ∀ (i : Nat) x, ((fromTo f j m).map (Value.int .u8))[i]? = some x → w.cell? ((⟨N, j, none⟩ : Addr).add i) = some x := by
  intro i x hx
  have hi : i < m := by
    have := (List.getElem?_eq_some_iff.1 hx).1
    simpa [fromTo_length] using this
  rw [Addr.add_lit, h.cell (by omega)]
  simp [fromTo, hi] at hx
  rw [hx]
theorem fromTo_one (f : Nat → Int) (j m : Nat) : ∀ x ∈ (fromTo f j m).map (Value.int .u8), x.oneCell' = true := ints_oneCell _ _

theorem arr56 : Try.prog.arrayLen 56 = 20 := by kernel_rfl
theorem el56 : Try.prog.elem 56 = 5 := by kernel_rfl
theorem un56 : Try.prog.underlying 56 = some (.array (Try.prog.arrayLen 56) (Try.prog.elem 56)) := by kernel_rfl
theorem slice56 (N l : Nat) (hl : l ≤ 19) (W : World) : (Instr.sliceAt 56 (.pointer (some ⟨N, 0, none⟩)) (some (.int .i64 l)) none none).run Try.prog W = .ok (.slice (some ⟨N, l, none⟩) (20 - l) (20 - l)) W := by
  rw [run_sliceAt_array_l W 56 ⟨N, 0, none⟩ un56 .i64 l (by omega) (by rw [arr56]; omega), el56, arr56]
  simp [slicedAt, Addr.add, go_sem, show ¬ 20 = l by omega]
  omega

theorem pow_step (q j : Nat) (h : q < 10 ^ (j + 1)) : q / 10 < 10 ^ j := by
  rw [Nat.pow_succ] at h
  omega

set_option maxRecDepth 1000000 in
set_option maxHeartbeats 2000000 in
theorem uint_any (w : World) (base : Nat) (v : Value) (n u : Nat) (xs : List Value) (hu : u < 10000000000000000000) (hn : n ≤ 1000000000000) (hown : Hid (w.ownsRow base 5 1 v n xs)) (hb : base ≤ w.heap.size) :
    Calls Try.prog 24 #[v, .int .u64 u] w (AppPost w base v n xs Digits) := by
  go_enter Try.func24, Try.ntmps24
  go_wp2_with fail
  go_loopg [1, 6] 19 (fun g s1 s6 wr => ∃ (q j : Nat) (f : Nat → Int), g = j ∧ j ≤ 19 ∧ s1 = .int .u64 q ∧ q < 10000000000000000000 ∧ s6 = .int .i64 j ∧ Hid (q < 10 ^ j) ∧ Hid (∀ i, j ≤ i → i < 20 → 48 ≤ f i ∧ f i ≤ 57) ∧ Hid (wr.rowIs w.heap.size 56 20 (fun i => .int .u8 (f i))) ∧ Hid (Below w.heap.size w wr))
  case atStart =>
    refine ⟨u / 10, 19, fun i => if i = 19 then 48 + (u : Int) % 10 else 0, rfl, Nat.le_refl _, rfl, by omega, rfl, ?_, ?_, ?_, (Below.refl _ _).alloc (Nat.le_refl _) _⟩
    · show u / 10 < 10 ^ 19
      have : (10 : Nat) ^ 19 = 10000000000000000000 := by decide
      omega
    · intro i h1 h2
      have : i = 19 := by omega
      subst this
      simp
      omega
    · refine ⟨_, Go.Deep.blk_alloc_new _ _, rfl, fun i hi => ?_⟩
      match i, hi with
      | 0, _ => rfl
      | 1, _ => rfl
      | 2, _ => rfl
      | 3, _ => rfl
      | 4, _ => rfl
      | 5, _ => rfl
      | 6, _ => rfl
      | 7, _ => rfl
      | 8, _ => rfl
      | 9, _ => rfl
      | 10, _ => rfl
      | 11, _ => rfl
      | 12, _ => rfl
      | 13, _ => rfl
      | 14, _ => rfl
      | 15, _ => rfl
      | 16, _ => rfl
      | 17, _ => rfl
      | 18, _ => rfl
      | 19, _ => rfl
      | k + 20, h => omega
  case round =>
    obtain ⟨q, j, f, rfl, hj, rfl, hq, rfl, HQ, HF, HR, HB⟩ := hrel
    by_cases hq0 : 0 < q
    · obtain ⟨j', rfl⟩ : ∃ j', gk = j' + 1 := by
        cases gk with
        | zero => have := HQ.out; simp at this; omega
        | succ j' => exact ⟨j', rfl⟩
      have hc := HR.out.cell (i := j') (by omega)
      have hfz := HR.out.frozen j'
      have HQ2 : Hid (q / 10 < 10 ^ j') := pow_step q j' HQ.out
      have HR2 : Hid ((wr.setCell ⟨w.heap.size, j', none⟩ (.int .u8 (48 + (q : Int) % 10))).rowIs w.heap.size 56 20 (fun i => .int .u8 ((fun i => if i = j' then 48 + (q : Int) % 10 else f i) i))) := by
        refine (HR.out.set j' _).congr (fun i hi => ?_)
        by_cases e : i = j' <;> simp [e]
      have HB2 : Hid (Below w.heap.size w (wr.setCell ⟨w.heap.size, j', none⟩ (.int .u8 (48 + (q : Int) % 10)))) := HB.out.setCell (Nat.le_refl _) _
      have HF2 : Hid (∀ i, j' ≤ i → i < 20 → 48 ≤ (fun i => if i = j' then 48 + (q : Int) % 10 else f i) i ∧ (fun i => if i = j' then 48 + (q : Int) % 10 else f i) i ≤ 57) := by
        intro i h1 h2
        by_cases e : i = j'
        · simp [e]; omega
        · simp [e]; exact HF.out i (by omega) h2
      clear HR HB HF HQ
      go_wp2_with fail
      go_roundg j'
      case measure => omega
      case rel => exact ⟨q / 10, j', _, rfl, by omega, by go_num, by omega, by go_num, HQ2, HF2, HR2, HB2⟩
    · obtain rfl : q = 0 := by omega
      obtain ⟨i5, h5, hz0, hz1, hz2⟩ := info_parts Try.info5
      have hsz := HB.out.size
      have HO : Hid (wr.ownsRow base 5 1 v n xs) := own_below hown.out HB.out
      have hsl := slice56 w.heap.size gk hj
      go_wp2_with (at_builtin; refine wpList_append_own_at _ rfl (.tmp 27) (.tmp 29) 22 rfl base 5 i5 _ 1 1 Try.underlying22 h5 hz0 hz1 hz2 rfl (by decide) v n xs rfl HO.out ⟨w.heap.size, gk, none⟩ (20 - gk) (20 - gk) ((fromTo f gk (20 - gk)).map (Value.int .u8)) rfl (by simp [fromTo_length]) (fromTo_cells HR.out (by omega)) (fromTo_one _ _ _) (by unfold maxLen; omega) (by omega) (by omega) ?_)
      intro v' w2 ho2 hg2 _ hl2
      have HA : Hid (AppPost w base v n xs Digits (.returned v') w2) := by
        refine ⟨v', fromTo f gk (20 - gk), rfl, ⟨by rw [fromTo_length]; omega, by rw [fromTo_length]; omega, ?_⟩, by rw [fromTo_length]; exact ho2, grown_after HB.out hg2, ?_⟩
        · intro c hc
          simp [fromTo] at hc
          obtain ⟨i, hi, rfl⟩ := hc
          exact HF.out _ (by omega) (by omega)
        · rcases hl2 with h | h
          · exact .inl h
          · exact .inr ⟨_, h, hsz⟩
      clear ho2 hg2 hl2 HO HB HR HF HQ
      go_wp2_with fail
      go_ret
      exact HA.out

def Nums (m : Nat) (news : List Int) : Prop := 1 ≤ news.length ∧ news.length ≤ m ∧ ∀ c ∈ news, isNum c = true
theorem Digits.nums {news : List Int} (h : Digits news) : Nums 20 news := ⟨h.1, h.2.1, fun c hc => by have := h.2.2 c hc; simp [isNum]; omega⟩

theorem own_blocks {w : World} {base : Nat} {e : TypeId} {size : Nat} {v : Value} {n : Nat} {xs : List Value} (h : w.ownsRow base e size v n xs) : ∀ g, v.ownBlock = some g → base ≤ g ∧ g < w.heap.size := by
  intro g hg
  rcases h.2 with ⟨rfl, _⟩ | ⟨g', cap, cur, rfl, hb, hh, _⟩
  · simp [Value.ownBlock] at hg
  · simp [Value.ownBlock] at hg; subst hg; exact ⟨hb, (Array.getElem?_eq_some_iff.1 hh).1⟩

/-- Two appends, one behind the other. -/
theorem AppPost.after {w w1 : World} {base : Nat} {v v1 : Value} {n : Nat} {xs : List Value} {pre : List Int} {R S : List Int → Prop} {x : Ending} {w' : World}
    (hg1 : w.grownBy w1 v.ownBlock) (hl1 : v1.ownBlock = v.ownBlock ∨ ∃ g, v1.ownBlock = some g ∧ w.heap.size ≤ g)
    (h : AppPost w1 base v1 (n + pre.length) (xs ++ pre.map (Value.int .u8)) R x w') (hRS : ∀ news, R news → S (pre ++ news)) : AppPost w base v n xs S x w' := by
  obtain ⟨v', news, rfl, hr, ho, hg, hl⟩ := h
  refine ⟨v', pre ++ news, rfl, hRS news hr, ?_, ?_, ?_⟩
  · rw [List.length_append, List.map_append, ← List.append_assoc, ← Nat.add_assoc]; exact ho
  · refine ⟨hg.os.trans hg1.os, hg.tape.trans hg1.tape, hg.output.trans hg1.output, Nat.le_trans hg1.size hg.size, fun k h1 h2 => ?_⟩
    rw [hg.block k (Nat.lt_of_lt_of_le h1 hg1.size) ?_, hg1.block k h1 h2]
    rcases hl1 with h | ⟨g, h, hge⟩
    · rw [h]; exact h2
    · rw [h]; intro e; cases e; omega
  · rcases hl with h | ⟨g, h, hge⟩
    · rw [h]; exact hl1
    · exact .inr ⟨g, h, Nat.le_trans hg1.size hge⟩

theorem one_cell (w : World) (v : Value) (T : TypeId) : ∀ (j : Nat) u, [v][j]? = some u → (w.alloc (.cells #[v] T)).cell? ((⟨w.heap.size, 0, none⟩ : Addr).add j) = some u := by
  intro j u h
  match j, h with
  | 0, h => simp at h; subst h; simp [Addr.add]
  | j + 1, h => simp at h
theorem one_byte (k : IntKind) (a : Int) : ∀ u ∈ [Value.int k a], u.oneCell' = true := by
  intro u hu; simp at hu; subst hu; rfl
theorem grown_alloc {w w2 : World} {row : Option Nat} {o : Obj} (hg : (w.alloc o).grownBy w2 row) : w.grownBy w2 row := (World.grownBy_alloc w o row).trans hg
theorem lies_alloc {w : World} {o : Obj} {a b : Option Nat} (h : a = b ∨ a = some (w.alloc o).heap.size) : a = b ∨ ∃ g, a = some g ∧ w.heap.size ≤ g := by
  rcases h with h | h
  · exact .inl h
  · exact .inr ⟨_, h, by simp⟩

set_option maxRecDepth 1000000 in
set_option maxHeartbeats 2000000 in
theorem int_any (w : World) (base : Nat) (v : Value) (n : Nat) (z : Int) (xs : List Value) (h0 : -9223372036854775808 ≤ z) (h1 : z ≤ 9223372036854775807) (hn : n ≤ 900000000000) (hown : Hid (w.ownsRow base 5 1 v n xs)) (hb : base ≤ w.heap.size) :
    Calls Try.prog 22 #[v, .int .i64 z] w (AppPost w base v n xs (Nums 21)) := by
  by_cases hz : z < 0
  · obtain ⟨i5, h5, hz0, hz1, hz2⟩ := info_parts Try.info5
    go_enter Try.func22, Try.ntmps22
    go_wp2_with (first
      | (at_builtin; refine wpList_append_own_at _ rfl (.tmp 7) (.tmp 8) 22 rfl base 5 i5 _ 1 1 Try.underlying22 h5 hz0 hz1 hz2 rfl (by decide) v n xs rfl (hown.out.alloc _) ⟨w.heap.size, 0, none⟩ 1 1 [.int .u8 45] rfl rfl (one_cell _ _ _) (one_byte _ _) (by unfold maxLen; omega) (by omega) (by simp; omega) ?_; intro v1 w1 ho1 hg1 _ hl1; have HO1 : Hid (w1.ownsRow base 5 1 v1 (n + 1) (xs ++ [.int .u8 45])) := ho1; have HG1 : Hid (w.grownBy w1 v.ownBlock) := grown_alloc hg1; have HL1 : Hid (v1.ownBlock = v.ownBlock ∨ ∃ g, v1.ownBlock = some g ∧ w.heap.size ≤ g) := lies_alloc hl1; have hsz : w.heap.size ≤ w1.heap.size := HG1.out.size; clear ho1 hg1 hl1)
      | (go_at_call 23; refine (mag_any _ _ h0 h1).mono ?_; rintro x w' ⟨⟨u, rfl, hu⟩, hw⟩; obtain rfl := hw.symm))
    refine (uint_any _ base _ (n + 1) u _ hu (by omega) HO1 (by omega)).mono ?_
    rintro x w2 hA
    have HA : Hid (AppPost w base v n xs (Nums 21) x w2) := by
      refine AppPost.after (pre := [45]) HG1.out HL1.out hA (fun news hd => ?_)
      obtain ⟨a1, a2, a3⟩ := hd.nums
      refine ⟨by simp, by simp; omega, fun c hc => ?_⟩
      rcases List.mem_cons.1 hc with rfl | hc
      · decide
      · exact a3 c hc
    obtain ⟨v', news, rfl, _⟩ := hA
    clear HO1 HG1 HL1
    go_wp2_with fail
    go_ret
    exact HA.out
  · go_enter Try.func22, Try.ntmps22
    go_wp2_with (go_at_call 23; refine (mag_any _ _ h0 h1).mono ?_; rintro x w' ⟨⟨u, rfl, hu⟩, hw⟩; obtain rfl := hw.symm)
    refine (uint_any _ base _ n u _ hu (by omega) hown hb).mono ?_
    rintro x w2 hA
    have HA : Hid (AppPost w base v n xs (Nums 21) x w2) := by
      obtain ⟨v', news, h1, h2, h3⟩ := hA
      have h4 := h2.nums
      exact ⟨v', news, h1, ⟨h4.1, by have := h4.2.1; omega, h4.2.2⟩, h3⟩
    obtain ⟨v', news, rfl, _⟩ := hA
    go_wp2_with fail
    go_ret
    exact HA.out
end Go.Proofs.Qxb6001736a
