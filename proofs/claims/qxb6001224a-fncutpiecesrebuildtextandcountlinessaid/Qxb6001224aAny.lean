import Derived.Test.Qxb6001224aRune
import Derived.Lib.RuneCount
namespace Go.Proofs.Qxb6001224a
open Go.RowKit Go.ChangeShapes
set_option linter.unusedVariables false
set_option linter.unusedSimpArgs false

/-- What IndexAny answers, as far as it is used here. -/
def AnyPost (s : ByteArray) (w : World) (e : Ending) (w' : World) : Prop := (∃ q : Int, e = .returned (.int .i64 q) ∧ -1 ≤ q ∧ q < s.size) ∧ Below w.heap.size w w'

set_option maxRecDepth 1000000 in
set_option maxHeartbeats 4000000 in
theorem any_short (s : ByteArray) (w : World) (h8 : s.size ≤ 8) : Calls Try.prog 29 #[.string s, .string ⟨#[34, 10]⟩] w (AnyPost s w) := by
  have h8z : decide ((8 : Int) < (s.size : Int)) = false := decide_eq_false (by omega)
  go_enter Try.func29, Try.ntmps29
  go_wp2_with (go_at_call 35; refine (Try.strings_shouldUseASCIISet _ _).mono ?_; rw [h8z]; rintro e w' ⟨rfl, hw⟩; obtain rfl := hw.symm)
  go_loopg [9, 10] s.size (fun g _ _ wx => ∃ i : Nat, g = s.size - i ∧ Hid (wx.heap[w.heap.size]? = some (.stringIter s i)) ∧ Hid (Below w.heap.size w wx))
  case atStart => exact ⟨0, rfl, World.iter_heap _ _ _, below_iter w s 0⟩
  case round =>
    obtain ⟨i, rfl, hk, hB⟩ := hrel
    by_cases hi : i < s.size
    · have hnx := fun ty => Lib.run_next_any_at (P := Try.prog) wr w.heap.size s i ty hk.out hi
      have hwd := Lib.decode_width_pos s i hi
      have hle := decode_le s i
      obtain ⟨r, hr⟩ : ∃ r, r = (Utf8.decode s i).1 := ⟨_, rfl⟩
      obtain ⟨d, hd⟩ : ∃ d, d = (Utf8.decode s i).2 := ⟨_, rfl⟩
      rw [← hr, ← hd] at hnx
      rw [← hr] at hle
      rw [← hd] at hwd
      clear hr hd
      have hk2 : Hid ((wr.iterAt w.heap.size s (i + d)).heap[w.heap.size]? = some (.stringIter s (i + d))) := Lib.iterAt_heap wr w.heap.size s i (i + d) hk.out
      have hB2 : Hid (Below w.heap.size w (wr.iterAt w.heap.size s (i + d))) := Lib.below_iterAt hB.out (Nat.le_refl _) s (i + d)
      obtain ⟨W, hW⟩ : ∃ W, W = wr.iterAt w.heap.size s (i + d) := ⟨_, rfl⟩
      rw [← hW] at hk2 hB2 hnx
      clear hW hk hB
      have HR : Hid (∀ W', W' = W → Calls Try.prog 34 #[.string ⟨#[34, 10]⟩, .int .i32 r] W' fun e w' => (∃ q : Int, e = .returned (.int .i64 q)) ∧ Hid (w'.heap[w.heap.size]? = some (.stringIter s (i + d))) ∧ Hid (Below w.heap.size w w')) := by
        rintro W' rfl
        refine (rune_any W' r hle).mono ?_
        rintro e w' ⟨hq, hb⟩
        have hlt : w.heap.size < W'.heap.size := (Array.getElem?_eq_some_iff.1 hk2.out).1
        exact ⟨hq, (hb.block _ hlt).trans hk2.out, hB2.out.trans (hb.mono (Nat.le_of_lt hlt))⟩
      clear hk2 hB2
      go_wp2_with (go_at_call 34; refine (HR.out _ rfl).mono ?_; rintro e w' ⟨⟨q, rfl⟩, hk3, hB3⟩)
      · go_ret
        exact ⟨⟨i, rfl, by omega, by omega⟩, hB3.out⟩
      · go_roundg (s.size - (i + d))
        case measure => omega
        case rel => exact ⟨i + d, rfl, hk3, hB3⟩
    · have hnx := fun ty => Lib.run_next_end_at (P := Try.prog) wr w.heap.size s i ty hk.out hi
      clear hk
      go_wp2
      go_ret
      exact ⟨⟨-1, rfl, by omega, by omega⟩, hB.out⟩

theorem indexAny_lt (chars : List UInt8) : ∀ l : List UInt8, Lib.indexAny l chars < l.length
  | [] => by simp [Lib.indexAny]
  | b :: l => by
    have := indexAny_lt chars l
    have h2 := Lib.indexAny_ge chars l
    simp only [Lib.indexAny, List.length_cons]
    split
    · omega
    · split <;> omega

theorem ascii2 : ∀ (j : Nat) b, (⟨#[34, 10]⟩ : ByteArray).data.toList[j]? = some b → b.toNat < 128 := by
  intro j b h
  match j, h with
  | 0, h => simp at h; subst h; decide
  | 1, h => simp at h; subst h; decide
  | j + 2, h => simp at h

theorem any_all (s : ByteArray) (w : World) (hs : s.size ≤ 1048576) : Calls Try.prog 29 #[.string s, .string ⟨#[34, 10]⟩] w (AnyPost s w) := by
  by_cases h8 : s.size ≤ 8
  · exact any_short s w h8
  · refine (Try.strings_IndexAny_long (fun w => by kernel_rfl) s ⟨#[34, 10]⟩ w (by decide) (by omega) (by omega) (by decide) ascii2).mono ?_
    rintro e w' ⟨rfl, rfl⟩
    have h1 := indexAny_lt (⟨#[34, 10]⟩ : ByteArray).data.toList s.data.toList
    have h2 := Lib.indexAny_ge (⟨#[34, 10]⟩ : ByteArray).data.toList s.data.toList
    rw [← Lib.size_eq] at h1
    exact ⟨⟨_, rfl, h2, h1⟩, ((Below.refl _ _).alloc (Nat.le_refl _) _).alloc (by simp) _⟩
end Go.Proofs.Qxb6001224a
