import Derived.Test.Qxb6000982aIbf
import Derived.Test.Qxb6000982aNaive2
import Derived.Deep.QuietTactic
import Derived.BigQuiet
namespace Go.Proofs.Qxb6000982a
open Go.RowKit Go.ChangeShapes
set_option linter.unusedVariables false
set_option linter.unusedSimpArgs false

/-- The literal as it lies at block l. -/
structure Lit3 (w : World) (l bt n : Nat) (fold : Bool) (a : Nat) : Prop where
  c0 : w.cell? ⟨l, 0, none⟩ = some (.slice (some ⟨bt, 0, none⟩) n n)
  c1 : w.cell? ⟨l, 1, none⟩ = some (.bool fold)
  c2 : w.cell? ⟨l, 2, none⟩ = some (.int .i64 a)

theorem lowA_any (w : World) (c : Int) (h0 : 0 ≤ c) (h1 : c ≤ 255) : Calls Try.prog 32 #[.int .u8 c] w fun e w' => e = .returned (.int .u8 (low c)) ∧ w' = w := by
  by_cases h65 : 65 ≤ c
  · by_cases h90 : c ≤ 90
    · have e : low c = c + 97 - 65 := by rw [low, if_pos ⟨h65, h90⟩]; omega
      rw [e]
      clear e
      go_enter Try.func32, Try.ntmps32
      go_wp2
      go_ret
      exact ⟨rfl, rfl⟩
    · have e : low c = c := by rw [low, if_neg (by omega)]
      rw [e]
      clear e
      go_enter Try.func32, Try.ntmps32
      go_wp2
      go_ret
      exact ⟨rfl, rfl⟩
  · have e : low c = c := by rw [low, if_neg (by omega)]
    rw [e]
    clear e
    go_enter Try.func32, Try.ntmps32
    go_wp2
    go_ret
    exact ⟨rfl, rfl⟩

def EqPost (T S : Nat → Int) (n : Nat) (fold : Bool) (st : Nat) (w : World) (x : Ending) (w' : World) : Prop := (∃ r : Bool, x = .returned (.bool r) ∧ (r = true ↔ Match T n fold S st)) ∧ ∃ k, w' = w.drewN k

theorem bytes_eq_plain {T S : Nat → Int} (hT : ∀ j, 0 ≤ T j ∧ T j ≤ 255) (hS : ∀ j, 0 ≤ S j ∧ S j ≤ 255) (n st : Nat) : (Lib.bytesOf (rowOf S st n) == Lib.bytesOf (rowOf T 0 n)) = true ↔ Match T n false S st := by
  rw [beq_iff_eq]
  constructor
  · intro h j hj
    have := congrArg (fun l => l[j]?) h
    simp only [rowOf_at _ _ _ _ hj, Nat.zero_add] at this
    exact byte_inj (hS _) (hT _) (Option.some.inj this)
  · intro h
    apply List.ext_getElem?
    intro j
    by_cases hj : j < n
    · rw [rowOf_at _ _ _ _ hj, rowOf_at _ _ _ _ hj, Nat.zero_add]
      have := h j hj
      rw [eff_false] at this
      rw [this]
    · rw [List.getElem?_eq_none (by rw [Lib.bytesOf_length, rowOf_length]; omega), List.getElem?_eq_none (by rw [Lib.bytesOf_length, rowOf_length]; omega)]

theorem equal_false (w : World) (l bt bs n m st cp a : Nat) (T S : Nat → Int) (hn : n ≤ 4096) (hm : m ≤ 65536) (hst : st + n ≤ m) (hL : Hid (Lit3 w l bt n false a)) (hT : Hid (Bytes w bt 0 n T)) (hS : Hid (Bytes w bs 0 m S)) (ht : Hid (∀ j, 0 ≤ T j ∧ T j ≤ 255)) (hb : Hid (∀ j, 0 ≤ S j ∧ S j ≤ 255)) :
    Calls Try.prog 28 #[.pointer (some ⟨l, 0, none⟩), .slice (some ⟨bs, st, none⟩) n cp] w (EqPost T S n false st w) := by
  have HE : Hid (∀ w', w = w' → ∀ c' d', Calls Try.prog 31 #[.slice (some ⟨bs, st, none⟩) n c', .slice (some ⟨bt, 0, none⟩) n d'] w' fun x w'' => x = .returned (.bool (Lib.bytesOf (rowOf S st n) == Lib.bytesOf (rowOf T 0 n))) ∧ w'' = w') := by
    rintro w' rfl c' d'
    refine Try.bytes_Equal_all _ _ n c' n d' (rowOf S st n) (rowOf T 0 n) w (rowOf_length _ _ _) (rowOf_length _ _ _) (fun _ => ⟨bs, st, rfl, fun k hk => ?_⟩) (fun _ => ⟨bt, 0, rfl, fun k hk => ?_⟩)
    · rw [rowOf_getD _ _ _ _ hk]
      have := hS.out (st + k) (by omega)
      rwa [Nat.zero_add] at this
    · rw [rowOf_getD _ _ _ _ hk]
      have := hT.out k (by omega)
      rwa [Nat.zero_add] at this ⊢
  have HP := bytes_eq_plain ht.out hb.out n st
  obtain ⟨q, hq⟩ : ∃ q, q = (Lib.bytesOf (rowOf S st n) == Lib.bytesOf (rowOf T 0 n)) := ⟨_, rfl⟩
  rw [← hq] at HE HP
  have H : Hid (q = true ↔ Match T n false S st) := HP
  clear hq hS hb ht hT HP
  have c0 := hL.out.c0
  have c1 := hL.out.c1
  go_enter Try.func28, Try.ntmps28
  go_wp2_with (go_at_call 31; refine (HE.out _ rfl _ _).mono ?_; rintro x w' ⟨rfl, rfl⟩)
  go_ret
  exact ⟨⟨q, rfl, H.out⟩, 0, rfl⟩

theorem drewN_more {w wr : World} {n : Nat} (h : Hid (∃ d, wr = w.drewN d)) : Hid (∃ d, wr.drewN n = w.drewN d) := by
  obtain ⟨d, rfl⟩ := h.out
  exact ⟨d + n, World.drewN_drewN _ _ _⟩

set_option maxHeartbeats 1000000 in
theorem equal_true (w : World) (l bt bs n m st cp a : Nat) (T S : Nat → Int) (hn : n ≤ 4096) (hm : m ≤ 65536) (hst : st + n ≤ m) (hL : Hid (Lit3 w l bt n true a)) (hT : Hid (Bytes w bt 0 n T)) (hS : Hid (Bytes w bs 0 m S)) (ht : Hid (∀ j, 0 ≤ T j ∧ T j ≤ 255)) (hb : Hid (∀ j, 0 ≤ S j ∧ S j ≤ 255)) :
    Calls Try.prog 28 #[.pointer (some ⟨l, 0, none⟩), .slice (some ⟨bs, st, none⟩) n cp] w (EqPost T S n true st w) := by
  have hT' : Hid (∀ j, j < n → w.cell? ⟨bt, j, none⟩ = some (.int .u8 (T j))) := fun j hj => by have := hT.out j hj; rwa [Nat.zero_add] at this
  have hS' : Hid (∀ j, j < n → w.cell? ⟨bs, st + j, none⟩ = some (.int .u8 (S (st + j)))) := fun j hj => by have := hS.out (st + j) (by omega); rwa [Nat.zero_add] at this
  have c0 := hL.out.c0
  have c1 := hL.out.c1
  clear hT hS ht
  go_enter Try.func28, Try.ntmps28
  go_wp2
  go_loopg [20] n (fun g i wr => ∃ k : Nat, k ≤ n ∧ g = n - k ∧ i = .int .i64 k ∧ Hid (∃ d, wr = w.drewN d) ∧ Hid (∀ j, j < k → eff true (S (st + j)) = T j))
  case atStart => exact ⟨0, Nat.zero_le _, rfl, rfl, ⟨0, rfl⟩, fun j hj => by omega⟩
  case round =>
    obtain ⟨k, hk, rfl, rfl, HW, HU⟩ := hrel
    have hcw : ∀ a, wr.cell? a = w.cell? a := fun a => by obtain ⟨d, rfl⟩ := HW.out; rfl
    have c0' := (hcw _).trans c0
    have c1' := (hcw _).trans c1
    clear c0 c1
    by_cases hlt : k < n
    · have h1 := (hcw _).trans (hT'.out k hlt)
      have h2 := (hcw _).trans (hS'.out k hlt)
      clear hcw
      have hr := hb.out (st + k)
      obtain ⟨t, ht⟩ : ∃ t, t = T k := ⟨_, rfl⟩
      obtain ⟨s, hs⟩ : ∃ s, s = S (st + k) := ⟨_, rfl⟩
      rw [← ht] at h1
      rw [← hs] at h2 hr
      have HT : Hid (t = T k) := ht
      have HS : Hid (s = S (st + k)) := hs
      clear ht hs
      obtain ⟨hr0, hr1⟩ := hr
      by_cases he : low s = t
      · have HJ' := match_step HU (by rw [← HS.out, ← HT.out]; exact he)
        have hd : (low s != t) = false := by simpa using he
        clear he HT HS hT' hS' hb HU
        go_wp2
        go_quiet ((go_at_call 32; exact Calls.quiet_of_same (lowA_any _ _ hr0 hr1)))
        go_wp2
        go_roundg (n - (k + 1))
        case measure => omega
        case rel => exact ⟨k + 1, by omega, rfl, by go_num, drewN_more HW, HJ'⟩
      · have HN : Hid (¬ Match T n true S st) := fun h => he (by rw [HS.out, HT.out]; exact h k hlt)
        have hd : (low s != t) = true := by simpa using he
        clear he HT HS hT' hS' hb HU
        go_wp2
        go_quiet ((go_at_call 32; exact Calls.quiet_of_same (lowA_any _ _ hr0 hr1)))
        go_wp2
        go_ret
        exact ⟨⟨false, rfl, by simpa using HN.out⟩, (drewN_more HW).out⟩
    · have HN : Hid (Match T n true S st) := fun j hj => HU.out j (by omega)
      clear hT' hS' hb HU hcw
      go_wp2
      go_ret
      exact ⟨⟨true, rfl, by simpa using HN.out⟩, HW.out⟩
end Go.Proofs.Qxb6000982a
