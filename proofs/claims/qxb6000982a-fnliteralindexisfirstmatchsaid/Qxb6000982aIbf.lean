import Derived.Test.Qxb6000982aNaive
import Derived.Test.Qxb6000982aShelf
import Derived.Lib.IndexLaws
namespace Go.Proofs.Qxb6000982a
open Go.RowKit Go.ChangeShapes
set_option linter.unusedVariables false
set_option linter.unusedSimpArgs false

/-- r is the first place from i on, below e, where S holds c; e where there is none. -/
structure IB (S : Nat → Int) (i e : Nat) (c : Int) (r : Nat) : Prop where
  ge : i ≤ r
  le : r ≤ e
  no : ∀ k, i ≤ k → k < r → S k ≠ c
  yes : r < e → S r = c

def rowOf (S : Nat → Int) (i n : Nat) : List Int := (List.range n).map (fun k => S (i + k))
theorem rowOf_length (S : Nat → Int) (i n : Nat) : (rowOf S i n).length = n := by simp [rowOf]
theorem rowOf_getD (S : Nat → Int) (i n k : Nat) (h : k < n) : (rowOf S i n).getD k 0 = S (i + k) := by simp [rowOf, h]
theorem byte_inj {a b : Int} (ha : 0 ≤ a ∧ a ≤ 255) (hb : 0 ≤ b ∧ b ≤ 255) (h : UInt8.ofNat a.toNat = UInt8.ofNat b.toNat) : a = b := by
  have h1 := congrArg UInt8.toNat h
  simp only [UInt8.toNat_ofNat'] at h1
  omega
theorem rowOf_at (S : Nat → Int) (i n k : Nat) (h : k < n) : (Lib.bytesOf (rowOf S i n))[k]? = some (UInt8.ofNat (S (i + k)).toNat) := by
  simp [Lib.bytesOf, rowOf, h]

theorem ib_plain (S : Nat → Int) (hS : ∀ j, 0 ≤ S j ∧ S j ≤ 255) (c : Int) (hc : 0 ≤ c ∧ c ≤ 255) (i n : Nat) :
    (Lib.indexByte (Lib.bytesOf (rowOf S i n)) c.toNat.toUInt8 = -1 ∧ IB S i (i + n) c (i + n)) ∨ ∃ o : Nat, o < n ∧ Lib.indexByte (Lib.bytesOf (rowOf S i n)) c.toNat.toUInt8 = o ∧ IB S i (i + n) c (i + o) := by
  have hge := Lib.indexByte_ge (Lib.bytesOf (rowOf S i n)) c.toNat.toUInt8
  by_cases h : Lib.indexByte (Lib.bytesOf (rowOf S i n)) c.toNat.toUInt8 = -1
  · refine .inl ⟨h, by omega, by omega, fun k h1 h2 e => ?_, fun h => by omega⟩
    refine Lib.indexByte_none h (k - i) ?_
    rw [rowOf_at _ _ _ _ (by omega), show i + (k - i) = k by omega, e]
  · obtain ⟨o, ho⟩ : ∃ o : Nat, Lib.indexByte (Lib.bytesOf (rowOf S i n)) c.toNat.toUInt8 = o := ⟨(Lib.indexByte (Lib.bytesOf (rowOf S i n)) c.toNat.toUInt8).toNat, by omega⟩
    obtain ⟨h1, h2⟩ := Lib.indexByte_some ho
    have hlt : o < n := by
      have := (List.getElem?_eq_some_iff.1 h1).1
      rwa [Lib.bytesOf_length, rowOf_length] at this
    rw [rowOf_at _ _ _ _ hlt] at h1
    refine .inr ⟨o, hlt, ho, by omega, by omega, fun k hk1 hk2 e => ?_, fun _ => byte_inj (hS _) hc (Option.some.inj h1)⟩
    refine h2 (k - i) (by omega) ?_
    rw [rowOf_at _ _ _ _ (by omega), show i + (k - i) = k by omega, e]

set_option maxHeartbeats 400000 in
theorem ibf_any (w : World) (b e m i : Nat) (c : Int) (S : Nat → Int) (hi : i < e) (he : e ≤ m) (hm : m ≤ 65536) (hS : Hid (Bytes w b 0 m S)) (hb : Hid (∀ j, 0 ≤ S j ∧ S j ≤ 255)) (hc0 : 0 ≤ c) (hc1 : c ≤ 255) :
    Calls Try.prog 27 #[.slice (some ⟨b, 0, none⟩) e m, .int .i64 i, .int .u8 c] w fun x w' => (∃ r : Nat, x = .returned (.int .i64 r) ∧ IB S i e c r) ∧ w' = w := by
  have HIB : Hid (∀ w', w = w' → ∀ c', Calls Try.prog 30 #[.slice (some ⟨b, i, none⟩) (e - i) c', .int .u8 c] w' fun x w'' => x = .returned (.int .i64 (Lib.indexByte (Lib.bytesOf (rowOf S i (e - i))) c.toNat.toUInt8)) ∧ w'' = w') := by
    rintro w' rfl c'
    refine Try.bytes_IndexByte b i (e - i) c' (rowOf S i (e - i)) c w (rowOf_length _ _ _) (fun k hk => ?_)
    rw [rowOf_getD _ _ _ _ hk]
    have := hS.out (i + k) (by omega)
    rwa [Nat.zero_add] at this
  have HP := ib_plain S hb.out c ⟨hc0, hc1⟩ i (e - i)
  rw [show i + (e - i) = e by omega] at HP
  obtain ⟨q, hq⟩ : ∃ q, q = Lib.indexByte (Lib.bytesOf (rowOf S i (e - i))) c.toNat.toUInt8 := ⟨_, rfl⟩
  rw [← hq] at HIB HP
  clear hq hS hb
  rcases HP with ⟨rfl, H⟩ | ⟨o, ho, rfl, H⟩
  · go_enter Try.func27, Try.ntmps27
    go_wp2_with (go_at_call 30; refine (HIB.out _ rfl _).mono ?_; rintro x w' ⟨rfl, rfl⟩)
    go_ret
    exact ⟨⟨e, rfl, H⟩, rfl⟩
  · go_enter Try.func27, Try.ntmps27
    go_wp2_with (go_at_call 30; refine (HIB.out _ rfl _).mono ?_; rintro x w' ⟨rfl, rfl⟩)
    go_ret
    exact ⟨⟨i + o, rfl, H⟩, rfl⟩
end Go.Proofs.Qxb6000982a
