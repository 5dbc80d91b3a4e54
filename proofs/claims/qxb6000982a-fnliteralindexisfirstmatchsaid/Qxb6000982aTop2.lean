import Derived.Test.Qxb6000982aTop
namespace Go.Proofs.Qxb6000982a
open Go.RowKit Go.ChangeShapes
set_option linter.unusedVariables false
set_option linter.unusedSimpArgs false

def TopPost (w : World) (e : Ending) (w' : World) : Prop := e = .returned (.bool true) ∧ Below w.heap.size w w'

/-- The ways that return ahead of the search. -/
theorem top_early (w : World) (a0 a3 : Option Addr) (n c0 m c3 : Nat) (fold : Bool) (a : Int) (hn : n ≤ 9223372036854775807) (hm : m ≤ 9223372036854775807) (h : ¬ (0 < n ∧ n ≤ 4096 ∧ m ≤ 65536 ∧ 0 ≤ a ∧ a < n)) :
    Calls Try.prog 3 #[.slice a0 n c0, .bool fold, .int .i64 a, .slice a3 m c3] w (TopPost w) := by
  by_cases h1 : n ≤ 1048576
  · by_cases h2 : m ≤ 1048576
    · by_cases h3 : n + m ≤ 1048576
      · by_cases h4 : n ≤ 4096
        · by_cases h5 : m ≤ 65536
          · by_cases h6 : 0 < n
            · by_cases h7 : 0 ≤ a
              · have h8 : (n : Int) ≤ a := by omega
                clear h
                go_enter Try.func3, Try.ntmps3
                go_wp2
                go_ret
                exact ⟨rfl, Below.refl _ _⟩
              · clear h
                go_enter Try.func3, Try.ntmps3
                go_wp2
                go_ret
                exact ⟨rfl, Below.refl _ _⟩
            · have h9 : n = 0 := by omega
              subst h9
              clear h
              go_enter Try.func3, Try.ntmps3
              go_wp2
              go_ret
              exact ⟨rfl, Below.refl _ _⟩
          · clear h
            go_enter Try.func3, Try.ntmps3
            go_wp2
            go_ret
            exact ⟨rfl, Below.refl _ _⟩
        · clear h
          go_enter Try.func3, Try.ntmps3
          go_wp2
          go_ret
          exact ⟨rfl, Below.refl _ _⟩
      · clear h
        go_enter Try.func3, Try.ntmps3
        go_wp2
        go_ret
        exact ⟨rfl, Below.refl _ _⟩
    · clear h
      go_enter Try.func3, Try.ntmps3
      go_wp2
      go_ret
      exact ⟨rfl, Below.refl _ _⟩
  · clear h
    go_enter Try.func3, Try.ntmps3
    go_wp2
    go_ret
    exact ⟨rfl, Below.refl _ _⟩

/-- What is known of s as it came in. -/
def SrcOk (w : World) (a : Option Addr) (m c : Nat) (S : Nat → Int) : Prop := (a = none ∧ m = 0 ∧ c = 0) ∨ (∃ x, a = some x ∧ m = 0) ∨ ∃ b off, a = some ⟨b, off, none⟩ ∧ 0 < m ∧ Bytes w b off m S

theorem clone_src (w : World) (a : Option Addr) (m c : Nat) (S : Nat → Int) (hm : m ≤ 65536) (h : Hid (SrcOk w a m c S)) :
    Calls Try.prog 11 #[.slice a m c] w fun e w' => ∃ g, e = .returned (.slice g m m) ∧ Hid (Below w.heap.size w w' ∧ ∃ b, (0 < m → g = some ⟨b, 0, none⟩) ∧ (0 < m → b < w'.heap.size) ∧ Bytes w' b 0 m S) := by
  rcases h.out with ⟨rfl, rfl, rfl⟩ | ⟨x, rfl, rfl⟩ | ⟨b, off, rfl, hp, hc⟩
  · refine (clone_nil w).mono ?_
    rintro e w' ⟨rfl, rfl⟩
    exact ⟨none, rfl, Below.refl _ _, 0, fun h => absurd h (Nat.lt_irrefl 0), fun h => absurd h (Nat.lt_irrefl 0), fun j hj => absurd hj (Nat.not_lt_zero j)⟩
  · refine (clone_zero w x c).mono ?_
    rintro e w' ⟨g, rfl, hb⟩
    exact ⟨g, rfl, hb, 0, fun h => absurd h (Nat.lt_irrefl 0), fun h => absurd h (Nat.lt_irrefl 0), fun j hj => absurd hj (Nat.not_lt_zero j)⟩
  · refine (clone_some w b off m c S (by omega) hc).mono ?_
    rintro e w' ⟨g, rfl, hb, ⟨_, h0⟩ | ⟨b', rfl, hle, hr⟩⟩
    · omega
    · exact ⟨_, rfl, hb, b', fun _ => rfl, fun _ => hr.lt, fun j hj => by rw [Nat.zero_add]; exact hr.cell hj⟩

theorem clone_text (w : World) (b off n c : Nat) (T : Nat → Int) (hp : 0 < n) (hn : n ≤ 4096) (h : Hid (Bytes w b off n T)) :
    Calls Try.prog 11 #[.slice (some ⟨b, off, none⟩) n c] w fun e w' => ∃ g, e = .returned (.slice (some ⟨g, 0, none⟩) n n) ∧ Hid (Below w.heap.size w w' ∧ g < w'.heap.size ∧ Bytes w' g 0 n T) := by
  refine (clone_some w b off n c T (by omega) h.out).mono ?_
  rintro e w' ⟨g, rfl, hb, ⟨_, h0⟩ | ⟨b', rfl, hle, hr⟩⟩
  · omega
  · exact ⟨_, rfl, hb, hr.lt, fun j hj => by rw [Nat.zero_add]; exact hr.cell hj⟩

theorem bytes_below {w w' : World} {b n : Nat} {Z : Nat → Int} (hB : Below w.heap.size w w') (hb : b < w.heap.size) (h : Bytes w b 0 n Z) : Bytes w' b 0 n Z := by
  intro j hj
  rw [← h j hj]
  exact hB.cell (p := ⟨b, 0 + j, none⟩) hb

theorem src_below {w w' : World} {a : Option Addr} {m c : Nat} {S : Nat → Int} (hB : Below w.heap.size w w') (h : SrcOk w a m c S) : SrcOk w' a m c S := by
  rcases h with h | h | ⟨b, off, rfl, hp, hc⟩
  · exact .inl h
  · exact .inr (.inl h)
  · refine .inr (.inr ⟨b, off, rfl, hp, fun j hj => ?_⟩)
    rw [← hc j hj]
    exact hB.cell (p := ⟨b, off + j, none⟩) (World.block_lt_of_cell? w ⟨b, off + j, none⟩ (hc j hj))

theorem naive_any (w : World) (bt bs n m : Nat) (ad : Option Addr) (fold : Bool) (T S : Nat → Int) (hn : n ≤ 4096) (hm : m ≤ 65536) (hp : 0 < n) (hT : Hid (Bytes w bt 0 n T)) (had : Hid (0 < m → ad = some ⟨bs, 0, none⟩)) (hS : Hid (Bytes w bs 0 m S)) (hb : Hid (∀ j, 0 ≤ S j ∧ S j ≤ 255)) (r : Int) (hr : Hid (First T n fold S m r)) :
    Calls Try.prog 13 #[.slice (some ⟨bt, 0, none⟩) n n, .bool fold, .slice ad m m] w fun e w' => e = .returned (.int .i64 r) ∧ w' = w := by
  by_cases hmn : m < n
  · refine (naive_short w bt n m ad fold hn hm hmn).mono ?_
    rintro e w' ⟨rfl, rfl⟩
    rw [(first_short hmn).unique hr.out]
    exact ⟨rfl, rfl⟩
  · obtain rfl := had.out (by omega)
    refine (naive_long w bt bs n m T S fold hn hm (by omega) hT hS hb).mono ?_
    rintro e w' ⟨⟨r', rfl, h⟩, rfl⟩
    rw [h.unique hr.out]
    exact ⟨rfl, rfl⟩

set_option maxHeartbeats 1000000 in
theorem top_main (w : World) (b off n c0 m c3 a : Nat) (a3 : Option Addr) (fold : Bool) (T S : Nat → Int) (hp : 0 < n) (hn : n ≤ 4096) (hm : m ≤ 65536) (ha : a < n) (hT : Hid (Bytes w b off n T)) (hS : Hid (SrcOk w a3 m c3 S)) (ht : Hid (∀ j, 0 ≤ T j ∧ T j ≤ 255)) (hb : Hid (∀ j, 0 ≤ S j ∧ S j ≤ 255)) :
    Calls Try.prog 3 #[.slice (some ⟨b, off, none⟩) n c0, .bool fold, .int .i64 a, .slice a3 m c3] w (TopPost w) := by
  have hn0 : ((n : Int) == 0) = false := by simp; omega
  by_cases hU : fold = true ∧ ¬ ∀ j, j < n → ¬ (65 ≤ T j ∧ T j ≤ 90)
  · obtain ⟨rfl, hU⟩ := hU
    have HU : Hid (¬ ∀ j, j < n → ¬ (65 ≤ T j ∧ T j ≤ 90)) := hU
    clear hU
    go_enter Try.func3, Try.ntmps3
    go_wp2_with (first
      | (go_at_call 10; refine (upper_yes _ b off n c0 T (by omega) hT HU).mono ?_; rintro x w' ⟨rfl, rfl⟩)
      | (go_at_call 9; go_in))
    go_ret
    exact ⟨rfl, Below.refl _ _⟩
  · have hup : Hid (fold = true → ∀ j, j < n → ¬ (65 ≤ T j ∧ T j ≤ 90)) := fun h1 => Classical.byContradiction fun h2 => hU ⟨h1, h2⟩
    clear hU
    cases fold with
    | false =>
      go_enter Try.func3, Try.ntmps3
      go_wp2_with (go_at_call 9; go_in)
      refine (clone_text _ b off n c0 T hp hn hT).mono ?_
      rintro x w1 ⟨g, rfl, H1⟩
      have HS1 : Hid (SrcOk w1 a3 m c3 S) := src_below H1.out.1 hS.out
      go_wp2_with fail
      refine (clone_src _ a3 m c3 S hm HS1).mono ?_
      rintro x w2 ⟨gs, rfl, H2⟩
      obtain ⟨hB1, hg1, hT1⟩ := H1.out
      obtain ⟨hB2, bs, had, hbs, hS2⟩ := H2.out
      have HB : Hid (Below w.heap.size w w2) := hB1.trans (hB2.mono hB1.size)
      have hsz : w.heap.size ≤ w2.heap.size := HB.out.size
      have HT2 : Hid (Bytes w2 g 0 n T) := bytes_below hB2 hg1 hT1
      have hg2 : g < w2.heap.size := Nat.lt_of_lt_of_le hg1 hB2.size
      have HAD : Hid (0 < m → gs = some ⟨bs, 0, none⟩) := had
      have HBS : Hid (0 < m → bs < w2.heap.size) := hbs
      have HS2 : Hid (Bytes w2 bs 0 m S) := hS2
      clear H1 H2 hB1 hg1 hT1 hB2 had hbs hS2 HS1 hT hS
      go_wp2_with fail
      refine (zlit_any _ g bs n m a gs _ T S hn hm ha hg2 HBS HT2 HAD HS2 ht hb hup).mono ?_
      rintro x w3 ⟨⟨r, rfl, hr⟩, hB3⟩
      have HR : Hid (First T n _ S m r) := hr
      have HB3 : Hid (Below w.heap.size w w3) := HB.out.trans (hB3.mono hsz)
      have HT3 : Hid (Bytes w3 g 0 n T) := bytes_below hB3 hg2 HT2.out
      have HS3 : Hid (Bytes w3 bs 0 m S) := by
        by_cases h : 0 < m
        · exact bytes_below hB3 (HBS.out h) HS2.out
        · intro j hj; omega
      clear hr hB3 HB hsz HT2 hg2 HBS HS2
      go_wp2_with fail
      refine (naive_any _ g bs n m gs _ T S hn hm hp HT3 HAD HS3 hb r HR).mono ?_
      rintro x w4 ⟨rfl, rfl⟩
      go_wp2_with fail
      go_ret
      exact ⟨by simp, HB3.out⟩
    | true =>
      have HU : Hid (∀ j, j < n → ¬ (65 ≤ T j ∧ T j ≤ 90)) := hup.out rfl
      go_enter Try.func3, Try.ntmps3
      go_wp2_with (first
        | (go_at_call 10; refine (upper_no _ b off n c0 T (by omega) hT HU).mono ?_; rintro x w' ⟨rfl, rfl⟩)
        | (go_at_call 9; go_in))
      refine (clone_text _ b off n c0 T hp hn hT).mono ?_
      rintro x w1 ⟨g, rfl, H1⟩
      have HS1 : Hid (SrcOk w1 a3 m c3 S) := src_below H1.out.1 hS.out
      go_wp2_with fail
      refine (clone_src _ a3 m c3 S hm HS1).mono ?_
      rintro x w2 ⟨gs, rfl, H2⟩
      obtain ⟨hB1, hg1, hT1⟩ := H1.out
      obtain ⟨hB2, bs, had, hbs, hS2⟩ := H2.out
      have HB : Hid (Below w'.heap.size w' w2) := hB1.trans (hB2.mono hB1.size)
      have hsz : w'.heap.size ≤ w2.heap.size := HB.out.size
      have HT2 : Hid (Bytes w2 g 0 n T) := bytes_below hB2 hg1 hT1
      have hg2 : g < w2.heap.size := Nat.lt_of_lt_of_le hg1 hB2.size
      have HAD : Hid (0 < m → gs = some ⟨bs, 0, none⟩) := had
      have HBS : Hid (0 < m → bs < w2.heap.size) := hbs
      have HS2 : Hid (Bytes w2 bs 0 m S) := hS2
      clear H1 H2 hB1 hg1 hT1 hB2 had hbs hS2 HS1 hT hS
      go_wp2_with fail
      refine (zlit_any _ g bs n m a gs _ T S hn hm ha hg2 HBS HT2 HAD HS2 ht hb (fun _ => HU.out)).mono ?_
      rintro x w3 ⟨⟨r, rfl, hr⟩, hB3⟩
      have HR : Hid (First T n _ S m r) := hr
      have HB3 : Hid (Below w'.heap.size w' w3) := HB.out.trans (hB3.mono hsz)
      have HT3 : Hid (Bytes w3 g 0 n T) := bytes_below hB3 hg2 HT2.out
      have HS3 : Hid (Bytes w3 bs 0 m S) := by
        by_cases h : 0 < m
        · exact bytes_below hB3 (HBS.out h) HS2.out
        · intro j hj; omega
      clear hr hB3 HB hsz HT2 hg2 HBS HS2
      go_wp2_with fail
      refine (naive_any _ g bs n m gs _ T S hn hm hp HT3 HAD HS3 hb r HR).mono ?_
      rintro x w4 ⟨rfl, rfl⟩
      go_wp2_with fail
      go_ret
      exact ⟨by simp, HB3.out⟩
end Go.Proofs.Qxb6000982a
