import Derived.Test.Qxb6001224aKeeps
namespace Go.Proofs.Qxb6001224a
open Go.RowKit Go.ChangeShapes
set_option linter.unusedVariables false
set_option linter.unusedSimpArgs false

/-- The cut points, one behind the other. -/
theorem cuts_le {t : ByteArray} {g : Nat} {p : Nat → Nat} {n : Nat} (h : Cuts t.size g p n) (j : Nat) (hj : j < n + 1) : withCut p n t.size j ≤ withCut p n t.size (j + 1) ∧ withCut p n t.size (j + 1) ≤ t.size := by
  by_cases hk : j < n
  · have h1 := h.gap j hk
    have h2 := (h.mono (j + 1) (by omega)).1
    have h3 := h.le
    rw [withCut_le _ _ _ _ (by omega), withCut_le _ _ _ _ (by omega)]
    omega
  · have e : j = n := by omega
    subst e
    rw [withCut_le _ _ _ _ (by omega), withCut_new]
    exact ⟨h.le, Nat.le_refl _⟩

theorem ret_int {k : IntKind} {a b : Int} (h : a = b) : Ending.returned (.int k a) = .returned (.int k b) := by rw [h]

/-- countByteB1. -/
theorem cnt_snoc (l : List UInt8) (c : UInt8) (d : UInt8) : Lib.countByte (l ++ [d]) c = Lib.countByte l c + if d = c then 1 else 0 := by
  unfold Lib.countByte
  rw [List.count_append]
  by_cases h : d = c
  · subst h; simp
  · simp [h]
theorem take_snoc (s : ByteArray) (k : Nat) (h : k < s.size) : s.data.toList.take (k + 1) = s.data.toList.take k ++ [s[k]] := by
  rw [List.take_succ_eq_append_getElem (by simpa using h)]; rfl

set_option maxHeartbeats 1000000 in
theorem count_go (s : ByteArray) (w : World) (hs : s.size ≤ 1048576) : Calls Try.prog 13 #[.string s, .int .u8 10] w fun e w' => e = .returned (.int .i64 (Lib.countByte s.data.toList 10)) ∧ w' = w := by
  go_enter Try.func13, Try.ntmps13
  go_wp2
  go_loopg [5, 6] s.size (fun g n i wr => ∃ (k q : Nat), k ≤ s.size ∧ g = s.size - k ∧ i = .int .i64 k ∧ n = .int .i64 q ∧ q ≤ k ∧ w = wr ∧ Hid (q = Lib.countByte (s.data.toList.take k) 10))
  case atStart => exact ⟨0, 0, Nat.zero_le _, rfl, rfl, rfl, Nat.le_refl _, rfl, by show _ = _; simp [Lib.countByte]⟩
  case round =>
    obtain ⟨k, q, hk, rfl, rfl, rfl, hq, rfl, HQ⟩ := hrel
    by_cases hlt : k < s.size
    · have hts := take_snoc s k hlt
      have hcs := cnt_snoc (s.data.toList.take k) 10 (s[k]'hlt)
      obtain ⟨x, hx⟩ : ∃ x : UInt8, s[k]'hlt = x := ⟨_, rfl⟩
      rw [hx] at hts hcs
      by_cases he : x = 10
      · subst he
        have HQ' : Hid (q + 1 = Lib.countByte (s.data.toList.take (k + 1)) 10) := by
          show _ = _
          rw [hts, hcs, ← HQ.out, if_pos rfl]
        have hb : (((10 : UInt8).toNat : Int) == 10) = true := by decide
        clear HQ hts hcs
        go_wp2
        go_roundg (s.size - (k + 1))
        case measure => omega
        case rel => exact ⟨k + 1, q + 1, by omega, rfl, by go_num, by go_num, by omega, rfl, HQ'⟩
      · have HQ' : Hid (q = Lib.countByte (s.data.toList.take (k + 1)) 10) := by
          show _ = _
          rw [hts, hcs, ← HQ.out, if_neg he, Nat.add_zero]
        have hb : ((x.toNat : Int) == 10) = false := by
          refine beq_eq_false_iff_ne.2 (fun h => he ?_)
          apply UInt8.toNat_inj.1
          show x.toNat = 10
          omega
        clear HQ hts hcs he
        go_wp2
        go_roundg (s.size - (k + 1))
        case measure => omega
        case rel => exact ⟨k + 1, q, by omega, rfl, by go_num, rfl, by omega, rfl, HQ'⟩
    · have HQ' : Hid (q = Lib.countByte s.data.toList 10) := by
        show _ = _
        rw [HQ.out, List.take_of_length_le (by rw [← Lib.size_eq]; omega)]
      clear HQ
      go_wp2
      go_ret
      exact ⟨ret_int (by rw [← HQ'.out]), rfl⟩

theorem rebuild_long (t : ByteArray) (parts least : Int) (w : World) (h1 : ¬ t.size ≤ 1048576) (h2 : t.size ≤ 9223372036854775807) : Calls Try.prog 3 #[.string t, .int .i64 parts, .int .i64 least] w (TopPost w) := by
  go_enter Try.func3, Try.ntmps3
  go_wp2
  go_ret
  exact ⟨rfl, Below.refl _ _⟩

set_option maxRecDepth 1000000 in
set_option maxHeartbeats 2000000 in
theorem rebuild_main (t : ByteArray) (parts least : Int) (w : World) (ht : t.size ≤ 1048576) (hp : parts ≤ 9223372036854775807) (hl : least ≤ 9223372036854775807) :
    Calls Try.prog 3 #[.string t, .int .i64 parts, .int .i64 least] w (TopPost w) := by
  go_enter Try.func3, Try.ntmps3
  go_wp2_with (first
    | (go_at_call 11; go_in)
    | (go_at_call 12; refine (zcut_any t parts least _ ht hp hl).mono ?_))
  rintro e w1 ⟨n, p, va, vb, vc, B, rfl, hmany, hcuts, hB1, hta, htb, htc, hB⟩
  obtain ⟨ga, ca, rfl, hca⟩ := own_some hta
  obtain ⟨gb, cb, rfl, hcb⟩ := own_some htb
  obtain ⟨gc, cc, rfl, hcc⟩ := own_some htc
  have hnl : n ≤ t.size := by have := hcuts.mono n (Nat.le_refl _); have := hcuts.le; omega
  obtain ⟨P, hP⟩ : ∃ P, P = withCut p n t.size := ⟨_, rfl⟩
  rw [← hP] at hca hcb hcc
  have HCA : Hid (∀ j, j < n + 1 → w1.cell? ⟨ga, j, none⟩ = some (fText t P j)) := hca
  have HCB : Hid (∀ j, j < n + 1 → w1.cell? ⟨gb, j, none⟩ = some (fLine t P j)) := hcb
  have HCC : Hid (∀ j, j < n + 1 → w1.cell? ⟨gc, j, none⟩ = some (fEnd t P j)) := hcc
  have HB : Hid (Below w.heap.size w w1) := hB
  have HP0 : Hid (P 0 = 0 ∧ P (n + 1) = t.size) := by
    subst hP
    exact ⟨by rw [withCut_le _ _ _ _ (by omega)]; exact hcuts.zero, withCut_new _ _ _⟩
  have HPL : Hid (∀ j, j < n + 1 → P j ≤ P (j + 1) ∧ P (j + 1) ≤ t.size) := by
    subst hP
    exact fun j hj => cuts_le hcuts j hj
  clear hmany hcuts hB1 hta htb htc hB hca hcb hcc hP
  have hn0 : ((n : Int) + 1 == 0) = false := beq_eq_false_iff_ne.2 (by omega)
  go_wp2_with fail
  go_loopg [11, 12, 13] (n + 1) (fun gk so ss i wr => ∃ (j po se : Nat), j ≤ n + 1 ∧ gk = n + 1 - j ∧ so = .int .i64 po ∧ ss = .int .i64 se ∧ i = .int .i64 j ∧ po ≤ t.size ∧ se ≤ t.size ∧ Hid (po = P j ∧ se = nl t 0 (P j)) ∧ w1 = wr)
  case atStart =>
    refine ⟨0, 0, 0, Nat.zero_le _, rfl, rfl, rfl, rfl, Nat.zero_le _, Nat.zero_le _, ⟨HP0.out.1.symm, ?_⟩, rfl⟩
    rw [HP0.out.1, nl_zero]
  case round =>
    obtain ⟨j, po, se, hj, rfl, rfl, rfl, rfl, hpo, hse, HQ, rfl⟩ := hrel
    by_cases hlt : j < n + 1
    · have c1 := HCA.out j hlt
      have c2 := HCB.out j hlt
      have c3 := HCC.out j hlt
      have hpl := HPL.out j hlt
      obtain ⟨q1, q2⟩ := HQ.out
      rw [fText, ← q1] at c1
      rw [fLine, ← q2] at c2
      rw [fEnd, ← q1] at c3
      rw [← q1] at hpl
      obtain ⟨d, hd⟩ : ∃ d, P (j + 1) = po + d := ⟨P (j + 1) - po, by omega⟩
      rw [hd] at c1 c3 hpl
      have hcnt : nl t po (po + d) ≤ d := by have := nl_le t po (po + d); omega
      have HQ2 : Hid (po + d = P (j + 1) ∧ se + nl t po (po + d) = nl t 0 (P (j + 1))) := by
        refine ⟨hd.symm, ?_⟩
        rw [hd, nl_add t 0 po (po + d) (by omega) (by omega), q2, ← q1]
      have hse2 : se + nl t po (po + d) ≤ t.size := by
        have h1 := HQ2.out.2
        have h2 := nl_le t 0 (P (j + 1))
        omega
      obtain ⟨X, hX⟩ : ∃ X, X = t.extract po (po + d) := ⟨_, rfl⟩
      have hXs : X.size = d := by rw [hX]; simp; omega
      have hCnt : Hid (Lib.countByte X.data.toList 10 = nl t po (po + d)) := by rw [hX]; rfl
      rw [← hX] at c1
      have HX : Hid (X = t.extract po (po + d)) := hX
      have hle := hpl.2
      obtain ⟨m, hm⟩ : ∃ m, m = nl t po (po + d) := ⟨_, rfl⟩
      rw [← hm] at c3 hcnt HQ2 hse2 hCnt
      have hne : (!(t.extract po (po + d)).toList == X.toList) = false := by rw [HX.out]; simp
      clear HCA HCB HCC HPL HQ q1 q2 hd hX hpl hm
      go_wp2_with (go_at_call 13; refine (count_go _ _ (by omega)).mono ?_; rw [hCnt.out]; rintro x w' ⟨rfl, hw⟩; obtain rfl := hw.symm)
      go_roundg (n + 1 - (j + 1))
      case measure => omega
      case rel => exact ⟨j + 1, po + d, se + m, by omega, rfl, by go_num, by go_num, by go_num, by omega, by omega, HQ2, rfl⟩
    · have e : j = n + 1 := by omega
      subst e
      have hpe : ((po : Int) == (t.size : Int)) = true := by rw [HQ.out.1, HP0.out.2]; simp
      clear HCA HCB HCC HPL HQ HP0
      go_wp2_with fail
      go_ret
      exact ⟨rfl, HB.out⟩

theorem rebuild_any (t : ByteArray) (parts least : Int) (w : World) (ht : t.size ≤ 9223372036854775807) (hp : parts ≤ 9223372036854775807) (hl : least ≤ 9223372036854775807) :
    Calls Try.prog 3 #[.string t, .int .i64 parts, .int .i64 least] w (TopPost w) := by
  by_cases h1 : t.size ≤ 1048576
  · exact rebuild_main t parts least w h1 hp hl
  · exact rebuild_long t parts least w h1 ht
end Go.Proofs.Qxb6001224a
