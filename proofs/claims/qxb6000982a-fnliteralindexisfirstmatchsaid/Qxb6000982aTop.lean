import Derived.Test.Qxb6000982aIndex2
namespace Go.Proofs.Qxb6000982a
open Go.RowKit Go.ChangeShapes
set_option linter.unusedVariables false
set_option linter.unusedSimpArgs false

theorem first_short {T S : Nat → Int} {n m : Nat} {fold : Bool} (h : m < n) : First T n fold S m (-1) := .inl ⟨rfl, fun i hi => by omega⟩

/-- index, whatever the lengths: the text's n bytes T at block bt, the m bytes S where there are any. -/
theorem index_any (w : World) (l bt bs n m a : Nat) (ad : Option Addr) (fold : Bool) (T S : Nat → Int) (hn : n ≤ 4096) (hm : m ≤ 65536) (ha : a < n) (hL : Hid (Lit3 w l bt n fold a)) (hT : Hid (Bytes w bt 0 n T)) (had : Hid (0 < m → ad = some ⟨bs, 0, none⟩)) (hS : Hid (Bytes w bs 0 m S)) (ht : Hid (∀ j, 0 ≤ T j ∧ T j ≤ 255)) (hb : Hid (∀ j, 0 ≤ S j ∧ S j ≤ 255))
    (hup : Hid (fold = true → ∀ j, j < n → ¬ (65 ≤ T j ∧ T j ≤ 90))) :
    Calls Try.prog 24 #[.pointer (some ⟨l, 0, none⟩), .slice ad m m] w (IxPost T S n m fold w) := by
  by_cases hmn : m < n
  · refine (index_short w l bt n m a ad fold T hn hmn ha hL hT ht).mono ?_
    rintro x w' ⟨rfl, k, rfl⟩
    exact ⟨⟨-1, rfl, first_short hmn⟩, k, rfl⟩
  · obtain rfl := had.out (by omega)
    have h1 := ht.out a
    have HE : Hid (m + a + 1 - n + n = m + a + 1) := show _ = _ by omega
    cases fold with
    | false => exact index_plain w l bt bs n m (m + a + 1 - n) a T S hn hm ha (by omega) (by omega) HE hL hT hS ht hb (fun h => by simp at h) (T a) rfl h1.1 h1.2
    | true =>
      have hu := hup.out rfl a ha
      by_cases h97 : T a < 97
      · exact index_lo w l bt bs n m (m + a + 1 - n) a T S hn hm ha (by omega) (by omega) HE hL hT hS ht hb (fun _ => hu) (T a) rfl h1.1 h1.2 h97
      · by_cases h122 : 122 < T a
        · exact index_hi w l bt bs n m (m + a + 1 - n) a T S hn hm ha (by omega) (by omega) HE hL hT hS ht hb (fun _ => hu) (T a) rfl h1.1 h1.2 h122
        · exact index_diff w l bt bs n m (m + a + 1 - n) a T S hn hm ha (by omega) (by omega) HE hL hT hS ht hb hu (T a) rfl (by omega) (by omega)

theorem bytes_alloc {w : World} {b n : Nat} {Z : Nat → Int} (o : Obj) (hb : b < w.heap.size) (h : Bytes w b 0 n Z) : Bytes (w.alloc o) b 0 n Z := by
  intro j hj
  rw [← h j hj]
  exact World.cell?_of_block (w := w) (Below.heap_alloc w o b hb)

def ZPost (T S : Nat → Int) (n m : Nat) (fold : Bool) (w : World) (x : Ending) (w' : World) : Prop := (∃ r : Int, x = .returned (.int .i64 r) ∧ First T n fold S m r) ∧ Below w.heap.size w w'

theorem zlit_any (w : World) (bt bs n m a : Nat) (ad : Option Addr) (fold : Bool) (T S : Nat → Int) (hn : n ≤ 4096) (hm : m ≤ 65536) (ha : a < n) (hbt : bt < w.heap.size) (hbs : Hid (0 < m → bs < w.heap.size)) (hT : Hid (Bytes w bt 0 n T)) (had : Hid (0 < m → ad = some ⟨bs, 0, none⟩)) (hS : Hid (Bytes w bs 0 m S)) (ht : Hid (∀ j, 0 ≤ T j ∧ T j ≤ 255)) (hb : Hid (∀ j, 0 ≤ S j ∧ S j ≤ 255))
    (hup : Hid (fold = true → ∀ j, j < n → ¬ (65 ≤ T j ∧ T j ≤ 90))) :
    Calls Try.prog 12 #[.slice (some ⟨bt, 0, none⟩) n n, .bool fold, .int .i64 a, .slice ad m m] w (ZPost T S n m fold w) := by
  have H : Hid (∀ w', w' = w.alloc (.cells #[.slice (some ⟨bt, 0, none⟩) n n, .bool fold, .int .i64 a] 37) → Calls Try.prog 24 #[.pointer (some ⟨w.heap.size, 0, none⟩), .slice ad m m] w' (ZPost T S n m fold w)) := by
    rintro w' rfl
    refine (index_any _ w.heap.size bt bs n m a ad fold T S hn hm ha ⟨by simp, by simp, by simp⟩ (bytes_alloc _ hbt hT.out) had (show Bytes _ _ _ _ _ from ?_) ht hb hup).mono ?_
    · by_cases h : 0 < m
      · exact bytes_alloc _ (hbs.out h) hS.out
      · intro j hj; omega
    · rintro x w' ⟨hr, k, rfl⟩
      have hB := (Below.refl w.heap.size w).alloc (Nat.le_refl _) (.cells #[.slice (some ⟨bt, 0, none⟩) n n, .bool fold, .int .i64 a] 37)
      exact ⟨hr, hB.os, hB.tape, hB.output, hB.size, hB.block⟩
  clear hT had hS ht hb hup hbs
  go_enter Try.func12, Try.ntmps12
  go_wp2_with (go_at_call 24; refine (H.out _ rfl).mono ?_; rintro x w' ⟨⟨r, rfl, hr⟩, hB⟩)
  go_ret
  exact ⟨⟨r, rfl, hr⟩, hB⟩
end Go.Proofs.Qxb6000982a
