import Derived.Test.Qxb6001736aSkip
import Derived.Test.Qxb6001736aShelf
import Derived.RegionTactic
import Derived.Deep.RegionWith
import Derived.Deep.DeepCutAuto
import Derived.Deep.CutBlock
namespace Go.Proofs.Qxb6001736a
open Go.RowKit Go.ChangeShapes
set_option linter.unusedVariables false
set_option linter.unusedSimpArgs false

theorem TS.alloc {w : World} {tb b n cap p : Nat} {ao : Option Addr} {D : Nat → Int} (h : TS w tb b ao n cap p D) (o : Obj) : TS (w.alloc o) tb b ao n cap p D := by
  have hlt : tb < w.heap.size := (Array.getElem?_eq_some_iff.1 h.row).1
  refine ⟨(Below.heap_alloc w o tb hlt).trans h.row, h.ad, fun j hj => ?_, h.ne⟩
  rw [← h.bytes j hj]
  exact World.cell?_of_block (w := w) (Below.heap_alloc w o b (World.block_lt_of_cell? w ⟨b, j, none⟩ (h.bytes j hj)))

theorem ib_all : ∀ n : Nat, n < 256 → (isNum (n : Int) = true → 0 ≤ Lib.indexByte [43, 45, 46, 48, 49, 50, 51, 52, 53, 54, 55, 56, 57, 69, 101] n.toUInt8) ∧ (isNum (n : Int) = false → Lib.indexByte [43, 45, 46, 48, 49, 50, 51, 52, 53, 54, 55, 56, 57, 69, 101] n.toUInt8 < 0) := by
  decide +kernel
theorem ib_yes (w : World) (c : Int) (h0 : 0 ≤ c) (h1 : c ≤ 255) (h : isNum c = true) : ∃ r : Int, 0 ≤ r ∧ ∀ w, Calls Try.prog 29 #[.string { data := #[43, 45, 46, 48, 49, 50, 51, 52, 53, 54, 55, 56, 57, 69, 101] }, .int .u8 c] w fun e w' => e = .returned (.int .i64 r) ∧ w' = w := by
  obtain ⟨n, rfl⟩ : ∃ n : Nat, c = (n : Int) := ⟨c.toNat, by omega⟩
  exact ⟨_, (ib_all n (by omega)).1 h, fun w => Try.strings_IndexByte { data := #[43, 45, 46, 48, 49, 50, 51, 52, 53, 54, 55, 56, 57, 69, 101] } (n : Int) w⟩
theorem ib_no (w : World) (c : Int) (h0 : 0 ≤ c) (h1 : c ≤ 255) (h : isNum c = false) : ∃ r : Int, r < 0 ∧ ∀ w, Calls Try.prog 29 #[.string { data := #[43, 45, 46, 48, 49, 50, 51, 52, 53, 54, 55, 56, 57, 69, 101] }, .int .u8 c] w fun e w' => e = .returned (.int .i64 r) ∧ w' = w := by
  obtain ⟨n, rfl⟩ : ∃ n : Nat, c = (n : Int) := ⟨c.toNat, by omega⟩
  exact ⟨_, (ib_all n (by omega)).2 h, fun w => Try.strings_IndexByte { data := #[43, 45, 46, 48, 49, 50, 51, 52, 53, 54, 55, 56, 57, 69, 101] } (n : Int) w⟩

/-- What next leaves: the token, the position, old memory but for the struct's own block. -/
def NextPost (w : World) (tb b : Nat) (ao : Option Addr) (n cap e : Nat) (D : Nat → Int) (v : Value) (x : Ending) (w' : World) : Prop :=
  x = .returned v ∧ Hid (TS w' tb b ao n cap e D) ∧ Hid (w.grownBy w' (some tb))

/-- The store that ends next. -/
theorem next_done {w wx : World} {tb b n cap e : Nat} {ao : Option Addr} {D : Nat → Int} (x y : Value) (HT : TS wx tb b ao n cap e D) (HG : w.grownBy wx (some tb)) (htb : tb < w.heap.size) (hb : 0 < n → b < w.heap.size) :
    TS ((wx.setCell ⟨w.heap.size, 0, none⟩ x).setCell ⟨w.heap.size, 1, none⟩ y).drew tb b ao n cap e D ∧ w.grownBy ((wx.setCell ⟨w.heap.size, 0, none⟩ x).setCell ⟨w.heap.size, 1, none⟩ y).drew (some tb) := by
  have hk : ∀ k, k < w.heap.size → ((wx.setCell ⟨w.heap.size, 0, none⟩ x).setCell ⟨w.heap.size, 1, none⟩ y).drew.heap[k]? = wx.heap[k]? := by
    intro k hk
    show ((wx.setCell ⟨w.heap.size, 0, none⟩ x).setCell ⟨w.heap.size, 1, none⟩ y).heap[k]? = _
    rw [Below.heap_setCell _ _ _ _ (by show k ≠ w.heap.size; omega), Below.heap_setCell _ _ _ _ (by show k ≠ w.heap.size; omega)]
  refine ⟨⟨(hk tb htb).trans HT.row, HT.ad, fun j hj => ?_, HT.ne⟩, ⟨HG.os, HG.tape, HG.output, by simp [World.setCell]; exact HG.size, fun k h1 h2 => (hk k h1).trans (HG.block k h1 h2)⟩⟩
  rw [← HT.bytes j hj]
  exact World.cell?_of_block (w := wx) (hk b (hb (by omega)))

theorem row_after {wx : World} {N : Nat} {a c : Value} (h : wx.heap[N]? = some (.cells #[a, c] 53 (0, 0))) (x y : Value) :
    ((wx.setCell ⟨N, 0, none⟩ x).setCell ⟨N, 1, none⟩ y).drew.cell? ⟨N, 0, none⟩ = some x ∧ ((wx.setCell ⟨N, 0, none⟩ x).setCell ⟨N, 1, none⟩ y).drew.cell? ⟨N, 1, none⟩ = some y := by
  have h2 : ((wx.setCell ⟨N, 0, none⟩ x).setCell ⟨N, 1, none⟩ y).heap[N]? = some (.cells #[x, y] 53 (0, 0)) := by
    simp [World.setCell, Array.getElem?_modify, h]
  constructor
  · show ((wx.setCell ⟨N, 0, none⟩ x).setCell ⟨N, 1, none⟩ y).cell? ⟨N, 0, none⟩ = _
    simp [World.cell?, h2]
  · show ((wx.setCell ⟨N, 0, none⟩ x).setCell ⟨N, 1, none⟩ y).cell? ⟨N, 1, none⟩ = _
    simp [World.cell?, h2]

set_option maxRecDepth 1000000 in
set_option maxHeartbeats 4000000 in
theorem next_any (w : World) (tb b n cap p s e : Nat) (ao : Option Addr) (D : Nat → Int) (k : Int) (hn : n ≤ 1000000000000) (h : Hid (TS w tb b ao n cap p D)) (hD : Hid (∀ j, 0 ≤ D j ∧ D j ≤ 255)) (hps : p ≤ s) (hse : s < e) (hen : e ≤ n) (hsep : Hid (∀ j, p ≤ j → j < s → isSep (D j) = true)) (hS : Hid (Shape D s e k)) (hend : Hid (e < n → isNum (D e) = false)) (hcap : n ≤ cap) :
    Calls Try.prog 26 #[.pointer (some ⟨tb, 0, none⟩)] w (NextPost w tb b ao n cap e D (.agg #[.int .u8 k, .slice (some ⟨b, s, none⟩) (e - s) (cap - s)])) := by
  have hns : Hid (s < n → isSep (D s) = false) := fun _ => hS.out.notSep
  have htb : tb < w.heap.size := (Array.getElem?_eq_some_iff.1 h.out.row).1
  have hbl : b < w.heap.size := World.block_lt_of_cell? w ⟨b, s, none⟩ (h.out.bytes s (by omega))
  obtain rfl := h.out.ad (by omega)
  go_enter Try.func26, Try.ntmps26
  go_wp2_with fail
  refine (skip_any _ tb b n cap p s _ D hn (h.out.alloc _) hps (by omega) hsep hns).mono ?_
  rintro x w2 ⟨rfl, HT, HO⟩
  have HG : Hid (w.grownBy w2 (some tb)) := ⟨HO.out.os, HO.out.tape, HO.out.output, by rw [HO.out.size]; simp, fun i h1 h2 => (HO.out.block i (fun h => h2 (by rw [h]))).trans (Below.heap_alloc _ _ _ h1)⟩
  have HR : Hid (w2.heap[w.heap.size]? = some (.cells #[.int .u8 0, .slice none 0 0] 53 (0, 0))) := (HO.out.block _ (by omega)).trans (Go.Deep.blk_alloc_new _ _)
  clear HO h
  have c0 := HT.out.c0
  have c1 := HT.out.c1
  have hby := HT.out.bytes s (by omega)
  obtain ⟨c, hc⟩ : ∃ c, c = D s := ⟨_, rfl⟩
  rw [← hc] at hby
  have HC : Hid (c = D s) := hc
  clear hc
  have hne : ((s : Int) == (n : Int)) = false := beq_eq_false_iff_ne.2 (by omega)
  go_wp2_with fail
  go_quiet (fail)
  obtain ⟨W, hW⟩ : ∃ W, W = w2.drewN nq := ⟨_, rfl⟩
  have HT2 : Hid (TS W tb b (some ⟨b, 0, none⟩) n cap s D) := by rw [hW]; exact HT.out.drewN nq
  have HG2 : Hid (w.grownBy W (some tb)) := by rw [hW]; exact ⟨HG.out.os, HG.out.tape, HG.out.output, HG.out.size, HG.out.block⟩
  have HR2 : Hid (W.heap[w.heap.size]? = some (.cells #[.int .u8 0, .slice none 0 0] 53 (0, 0))) := by rw [hW]; exact HR.out
  have d0 := HT2.out.c0
  have d1 := HT2.out.c1
  have df := HT2.out.f1
  have dby := HT2.out.bytes s (by omega)
  rw [← HC.out] at dby
  rw [← hW]
  clear hW HT HG HR c0 c1 hby
  go_upto_block 0 with (fail)
  go_cut [4] (fun s4 wx => s4 = .int .u8 k ∧ Hid (TS wx tb b (some ⟨b, 0, none⟩) n cap e D) ∧ Hid (Only tb W wx))
  case first =>
    rcases hS.out with ⟨hk, hDs, he⟩ | ⟨hk, hDs, f, hf⟩ | ⟨hk, hDs, he⟩ | ⟨hk, hDs, he⟩ | ⟨hk, _, hall⟩
    · have hck : c = k := HC.out.trans hDs
      subst he
      have HM := HT2.out.move (s + 1)
      have HM1 : Hid (TS (W.setCell ⟨tb, 1, none⟩ (.int .i64 ((s : Int) + 1))) tb b (some ⟨b, 0, none⟩) n cap (s + 1) D) := HM.1
      have HM2 : Hid (Only tb W (W.setCell ⟨tb, 1, none⟩ (.int .i64 ((s : Int) + 1)))) := HM.2
      clear HM HC hDs
      rcases hk with rfl | rfl | rfl | rfl
      all_goals
        subst hck
        go_wp2_with fail
        go_meet
        exact ⟨rfl, HM1, HM2⟩
    · have hck : c = 34 := HC.out.trans hDs
      subst hk
      have HM := HT2.out.move (s + 1)
      have HM1 : Hid (TS (W.setCell ⟨tb, 1, none⟩ (.int .i64 ((s : Int) + 1))) tb b (some ⟨b, 0, none⟩) n cap (s + 1) D) := HM.1
      have HM2 : Hid (Only tb W (W.setCell ⟨tb, 1, none⟩ (.int .i64 ((s : Int) + 1)))) := HM.2
      have HF : Hid (strEnd D f (s + 1) = some e) := hf
      clear HM HC hDs hf
      subst hck
      go_wp2_with fail
      clear d0 d1 df dby
      go_loopg [] f (fun g wr => ∃ q : Nat, Hid (strEnd D g q = some e) ∧ Hid (TS wr tb b (some ⟨b, 0, none⟩) n cap q D) ∧ Hid (Only tb W wr))
      case atStart => exact ⟨s + 1, HF, HM1, HM2⟩
      case round =>
        obtain ⟨q, HF2, HT3, HO3⟩ := hrel
        cases gk with
        | zero => exact absurd HF2.out (by simp [strEnd])
        | succ g =>
          have hqe : q < e := strEnd_lt D _ _ _ HF2.out
          have e0 := HT3.out.c0
          have e1 := HT3.out.c1
          have eby := HT3.out.bytes q (by omega)
          obtain ⟨x, hx⟩ : ∃ x, x = D q := ⟨_, rfl⟩
          have HX : Hid (x = D q) := hx
          rw [← hx] at eby
          clear hx
          go_wp2_with fail
          go_quiet (fail)
          obtain ⟨W3, hW3⟩ : ∃ W3, W3 = wr.drewN nq := ⟨_, rfl⟩
          have HT4 : Hid (TS W3 tb b (some ⟨b, 0, none⟩) n cap q D) := by rw [hW3]; exact HT3.out.drewN nq
          have HO4 : Hid (Only tb W W3) := by rw [hW3]; exact HO3.out.drewN nq
          have k0 := HT4.out.c0
          have k1 := HT4.out.c1
          have kf := HT4.out.f1
          have kby := HT4.out.bytes q (by omega)
          rw [← HX.out] at kby
          rw [← hW3]
          clear hW3 e0 e1 eby HT3 HO3
          by_cases hx34 : x = 34
          · have he : e = q + 1 := by
              have := HF2.out
              rw [strEnd, if_pos (by rw [← HX.out]; exact hx34)] at this
              exact (Option.some.inj this).symm
            subst he
            have hb : (x != 34) = false := by simp [hx34]
            have HM := HT4.out.move (q + 1)
            have HM1 : Hid (TS (W3.setCell ⟨tb, 1, none⟩ (.int .i64 ((q : Int) + 1))) tb b (some ⟨b, 0, none⟩) n cap (q + 1) D) := HM.1
            have HM2 : Hid (Only tb W (W3.setCell ⟨tb, 1, none⟩ (.int .i64 ((q : Int) + 1)))) := HO4.out.trans HM.2
            clear HM HT4 HO4 HF2 hx34
            go_wp2_with fail
            go_meet
            exact ⟨rfl, HM1, HM2⟩
          · have hb : (x != 34) = true := by simpa using hx34
            have HF3 : Hid (strEnd D g (if D q = 92 then q + 2 else q + 1) = some e) := by
              have := HF2.out
              rw [strEnd, if_neg (by rw [← HX.out]; exact hx34)] at this
              show _ = _
              rw [← this]
              split <;> rfl
            clear HF2
            go_wp2_with fail
            go_quiet (fail)
            obtain ⟨W4, hW4⟩ : ∃ W4, W4 = W3.drewN nq := ⟨_, rfl⟩
            have HT5 : Hid (TS W4 tb b (some ⟨b, 0, none⟩) n cap q D) := by rw [hW4]; exact HT4.out.drewN nq
            have HO5 : Hid (Only tb W W4) := by rw [hW4]; exact HO4.out.drewN nq
            have l0 := HT5.out.c0
            have l1 := HT5.out.c1
            have lf := HT5.out.f1
            rw [← hW4]
            clear hW4 k0 k1 kf kby HT4 HO4
            by_cases hx92 : x = 92
            · have hb2 : (x == 92) = true := by simp [hx92]
              have HF4 : Hid (strEnd D g (q + 2) = some e) := by
                have := HF3.out
                rwa [if_pos (by rw [← HX.out]; exact hx92)] at this
              have HM := HT5.out.move (q + 1)
              have HN := HM.1.move (q + 2)
              have m1 : (W4.setCell ⟨tb, 1, none⟩ (.int .i64 ((q : Int) + 1))).cell? ⟨tb, 1, none⟩ = some (.int .i64 ((q : Int) + 1)) := HM.1.c1
              have mf : (W4.setCell ⟨tb, 1, none⟩ (.int .i64 ((q : Int) + 1))).frozen? ⟨tb, 1, none⟩ = false := HM.1.f1
              have HN1 : Hid (TS ((W4.setCell ⟨tb, 1, none⟩ (.int .i64 ((q : Int) + 1))).setCell ⟨tb, 1, none⟩ (.int .i64 ((q : Int) + 2))) tb b (some ⟨b, 0, none⟩) n cap (q + 2) D) := HN.1
              have HN2 : Hid (Only tb W ((W4.setCell ⟨tb, 1, none⟩ (.int .i64 ((q : Int) + 1))).setCell ⟨tb, 1, none⟩ (.int .i64 ((q : Int) + 2)))) := (HO5.out.trans HM.2).trans HN.2
              have hqe2 : q + 2 < e := strEnd_lt D _ _ _ HF4.out
              clear HM HN HT5 HO5 HF3 hx92 hx34
              go_wp2_with fail
              go_roundg g
              case measure => omega
              case rel => exact ⟨q + 2, HF4, HN1, HN2⟩
            · have hb2 : (x == 92) = false := by simpa using hx92
              have HF4 : Hid (strEnd D g (q + 1) = some e) := by
                have := HF3.out
                rwa [if_neg (by rw [← HX.out]; exact hx92)] at this
              have HM := HT5.out.move (q + 1)
              have HN1 : Hid (TS (W4.setCell ⟨tb, 1, none⟩ (.int .i64 ((q : Int) + 1))) tb b (some ⟨b, 0, none⟩) n cap (q + 1) D) := HM.1
              have HN2 : Hid (Only tb W (W4.setCell ⟨tb, 1, none⟩ (.int .i64 ((q : Int) + 1)))) := HO5.out.trans HM.2
              clear HM HT5 HO5 HF3 hx92 hx34
              go_wp2_with fail
              go_roundg g
              case measure => omega
              case rel => exact ⟨q + 1, HF4, HN1, HN2⟩
    · have hck : c = k := HC.out.trans hDs
      subst he
      have HM := HT2.out.move (s + 4)
      have HM1 : Hid (TS (W.setCell ⟨tb, 1, none⟩ (.int .i64 ((s : Int) + 4))) tb b (some ⟨b, 0, none⟩) n cap (s + 4) D) := HM.1
      have HM2 : Hid (Only tb W (W.setCell ⟨tb, 1, none⟩ (.int .i64 ((s : Int) + 4)))) := HM.2
      clear HM HC hDs
      rcases hk with rfl | rfl
      all_goals
        subst hck
        go_wp2_with fail
        go_meet
        exact ⟨rfl, HM1, HM2⟩
    · have hck : c = 102 := HC.out.trans hDs
      subst he hk
      have HM := HT2.out.move (s + 5)
      have HM1 : Hid (TS (W.setCell ⟨tb, 1, none⟩ (.int .i64 ((s : Int) + 5))) tb b (some ⟨b, 0, none⟩) n cap (s + 5) D) := HM.1
      have HM2 : Hid (Only tb W (W.setCell ⟨tb, 1, none⟩ (.int .i64 ((s : Int) + 5)))) := HM.2
      clear HM HC hDs
      subst hck
      go_wp2_with fail
      go_meet
      exact ⟨rfl, HM1, HM2⟩
    · subst hk
      have hcn : isNum c = true := by rw [HC.out]; exact hall s (Nat.le_refl _) hse
      have HALL : Hid (∀ j, s ≤ j → j < e → isNum (D j) = true) := hall
      have hcs := isNum_cases c hcn
      have b1 : (c == 123) = false := beq_eq_false_iff_ne.2 (by omega)
      have b2 : (c == 125) = false := beq_eq_false_iff_ne.2 (by omega)
      have b3 : (c == 91) = false := beq_eq_false_iff_ne.2 (by omega)
      have b4 : (c == 93) = false := beq_eq_false_iff_ne.2 (by omega)
      have b5 : (c == 34) = false := beq_eq_false_iff_ne.2 (by omega)
      have b6 : (c == 116) = false := beq_eq_false_iff_ne.2 (by omega)
      have b7 : (c == 110) = false := beq_eq_false_iff_ne.2 (by omega)
      have b8 : (c == 102) = false := beq_eq_false_iff_ne.2 (by omega)
      clear hall hcs hcn HC
      go_wp2_with fail
      clear b1 b2 b3 b4 b5 b6 b7 b8 d0 d1 df dby
      go_loopg [] (e - s) (fun g wr => ∃ q : Nat, s ≤ q ∧ q ≤ e ∧ g = e - q ∧ Hid (TS wr tb b (some ⟨b, 0, none⟩) n cap q D) ∧ Hid (Only tb W wr))
      case atStart => exact ⟨s, Nat.le_refl _, by omega, rfl, HT2, Only.refl _ _⟩
      case round =>
        obtain ⟨q, hq1, hq2, rfl, HT3, HO3⟩ := hrel
        have e0 := HT3.out.c0
        have e1 := HT3.out.c1
        by_cases hqn : q < n
        · have eby := HT3.out.bytes q hqn
          obtain ⟨x, hx⟩ : ∃ x, x = D q := ⟨_, rfl⟩
          have HX : Hid (x = D q) := hx
          rw [← hx] at eby
          clear hx
          have hd := hD.out q
          rw [← HX.out] at hd
          have hlt : decide ((q : Int) < (n : Int)) = true := decide_eq_true (by omega)
          by_cases hqe : q < e
          · have hnum := HALL.out q hq1 hqe
            rw [← HX.out] at hnum
            obtain ⟨r, hr0, hib⟩ := ib_yes w x hd.1 hd.2 hnum
            have HIB : Hid (∀ w, Calls Try.prog 29 #[.string { data := #[43, 45, 46, 48, 49, 50, 51, 52, 53, 54, 55, 56, 57, 69, 101] }, .int .u8 x] w fun e w' => e = .returned (.int .i64 r) ∧ w' = w) := hib
            have hrd : decide (0 ≤ r) = true := decide_eq_true hr0
            clear hnum hib
            go_wp2_with fail
            go_quiet ((go_at_call 29; exact Calls.quiet_of_same (HIB.out _)))
            obtain ⟨W3, hW3⟩ : ∃ W3, W3 = wr.drewN nq := ⟨_, rfl⟩
            have HT4 : Hid (TS W3 tb b (some ⟨b, 0, none⟩) n cap q D) := by rw [hW3]; exact HT3.out.drewN nq
            have HO4 : Hid (Only tb W W3) := by rw [hW3]; exact HO3.out.drewN nq
            have k1 := HT4.out.c1
            have kf := HT4.out.f1
            rw [← hW3]
            have HM := HT4.out.move (q + 1)
            have HN1 : Hid (TS (W3.setCell ⟨tb, 1, none⟩ (.int .i64 ((q : Int) + 1))) tb b (some ⟨b, 0, none⟩) n cap (q + 1) D) := HM.1
            have HN2 : Hid (Only tb W (W3.setCell ⟨tb, 1, none⟩ (.int .i64 ((q : Int) + 1)))) := HO4.out.trans HM.2
            clear hW3 e0 e1 eby HT3 HO3 HM HT4 HO4
            go_wp2_with fail
            go_roundg (e - (q + 1))
            case measure => omega
            case rel => exact ⟨q + 1, by omega, by omega, rfl, HN1, HN2⟩
          · have e' : q = e := by omega
            subst e'
            have hnum := hend.out hqn
            rw [← HX.out] at hnum
            obtain ⟨r, hr0, hib⟩ := ib_no w x hd.1 hd.2 hnum
            have HIB : Hid (∀ w, Calls Try.prog 29 #[.string { data := #[43, 45, 46, 48, 49, 50, 51, 52, 53, 54, 55, 56, 57, 69, 101] }, .int .u8 x] w fun e w' => e = .returned (.int .i64 r) ∧ w' = w) := hib
            have hrd : decide (0 ≤ r) = false := decide_eq_false (by omega)
            clear hnum hib
            go_wp2_with fail
            go_quiet ((go_at_call 29; exact Calls.quiet_of_same (HIB.out _)))
            have HT4 : Hid (TS (wr.drewN nq) tb b (some ⟨b, 0, none⟩) n cap q D) := HT3.out.drewN nq
            have HO4 : Hid (Only tb W (wr.drewN nq)) := HO3.out.drewN nq
            clear e0 e1 eby HT3 HO3
            go_wp2_with fail
            go_meet
            exact ⟨rfl, HT4, HO4⟩
        · have e' : q = e := by omega
          subst e'
          have hlt : decide ((q : Int) < (n : Int)) = false := decide_eq_false (by omega)
          go_wp2_with fail
          go_quiet (fail)
          have HT4 : Hid (TS (wr.drewN nq) tb b (some ⟨b, 0, none⟩) n cap q D) := HT3.out.drewN nq
          have HO4 : Hid (Only tb W (wr.drewN nq)) := HO3.out.drewN nq
          clear e0 e1 HT3 HO3
          go_wp2_with fail
          go_meet
          exact ⟨rfl, HT4, HO4⟩
  case rest =>
    obtain ⟨rfl, HT3, HO3⟩ := hcut
    have HG3 : Hid (w.grownBy wc (some tb)) := ⟨HO3.out.os.trans HG2.out.os, HO3.out.tape.trans HG2.out.tape, HO3.out.output.trans HG2.out.output, by rw [HO3.out.size]; exact HG2.out.size, fun i h1 h2 => (HO3.out.block i (fun h => h2 (by rw [h]))).trans (HG2.out.block i h1 h2)⟩
    have HR3 : wc.heap[w.heap.size]? = some (.cells #[.int .u8 0, .slice none 0 0] 53 (0, 0)) := (HO3.out.block _ (by omega)).trans HR2.out
    have r0 : wc.cell? ⟨w.heap.size, 0, none⟩ = some (.int .u8 0) := by simp [World.cell?, HR3]
    have r1 : wc.cell? ⟨w.heap.size, 1, none⟩ = some (.slice none 0 0) := by simp [World.cell?, HR3]
    have q0 : wc.frozen? ⟨w.heap.size, 0, none⟩ = false := by simp [World.frozen?, HR3]
    have q1 : wc.frozen? ⟨w.heap.size, 1, none⟩ = false := by simp [World.frozen?, HR3]
    have e0 := HT3.out.c0
    have e1 := HT3.out.c1
    have HR4 : Hid (wc.heap[w.heap.size]? = some (.cells #[.int .u8 0, .slice none 0 0] 53 (0, 0))) := HR3
    clear HG2 HR2 HO3 d0 d1 df dby HT2 HR3
    go_wp2_with fail
    go_region
    go_wp2_with fail
    have hfin := next_done (.int .u8 k) (.slice (some ⟨b, s, none⟩) (e - s) (cap - s)) HT3.out HG3.out htb (fun _ => hbl)
    have hrow := row_after HR4.out (.int .u8 k) (.slice (some ⟨b, s, none⟩) (e - s) (cap - s))
    obtain ⟨g0, g1⟩ := hrow
    clear r0 r1 q0 q1 e0 e1
    exact bodyPost_ret (v := .agg #[.int .u8 k, .slice (some ⟨b, s, none⟩) (e - s) (cap - s)]) (by simp [results, Try.results26, go_sem, g0, g1]) rfl ⟨rfl, hfin.1, hfin.2⟩
end Go.Proofs.Qxb6001736a
