import Derived.Test.Qxb6001736aBuild
import Derived.Test.Qxb6001736aRead
import Derived.Test.Qxb6001736aFits
namespace Go.Proofs.Qxb6001736a
open Go.RowKit Go.ChangeShapes
set_option linter.unusedVariables false
set_option linter.unusedSimpArgs false

structure Reads (np n : Nat) (D : Nat → Int) (E : Nat → Nat) (K : Nat → Int) : Prop where
  range : ∀ j, 0 ≤ D j ∧ D j ≤ 255
  zero : E 0 = 0
  fin : E np ≤ n
  seps : ∀ j, E np ≤ j → j < n → isSep (D j) = true
  tok : ∀ i, i < np → E i + 1 < E (i + 1) ∧ E (i + 1) ≤ n ∧ (∀ j, E i ≤ j → j < E i + 1 → isSep (D j) = true) ∧ Shape D (E i + 1) (E (i + 1)) (K i) ∧ (E (i + 1) < n → isNum (D (E (i + 1))) = false)

theorem read_facts {w0 w' : World} {np : Nat} {x : Ending} (h : BPost w0 np x w') :
    ∃ (n : Nat) (D : Nat → Int) (E : Nat → Nat) (K : Nat → Int) (da : Option Addr) (db dc : Nat) (ka : Option Addr) (kb kc : Nat) (ua : Option Addr) (ub uc : Nat) (ea : Option Addr) (eb ec : Nat), x = .returned (.tuple #[.slice da n dc, .slice ka np kc, .slice ua np uc, .slice ea np ec]) ∧ n ≤ dc ∧ n ≤ 144179200001 ∧
      Hid (Below w0.heap.size w0 w') ∧ Hid (Laid w' n D np E K da db ka kb ua ub ea eb) ∧ Hid (Reads np n D E K) := by
  obtain ⟨d, kv, sv, ev, L0, tail, E, K, rfl, hT, ht, hL, hBI⟩ := h
  obtain ⟨da, db, dc, ka, kb, kc, ua, ub, uc, ea, eb, ec, rfl, hdc, rfl, rfl, rfl, HLD⟩ := laid_of hBI
  refine ⟨(L0 ++ tail).length, byteAt (L0 ++ tail), E, K, da, db, dc, ka, kb, kc, ua, ub, uc, ea, eb, ec, rfl, hdc, ?_, hBI.below, HLD, ⟨tail_range hT ht, hT.zero, (at_end hT ht).1, (at_end hT ht).2, fun i hi => tok_at hT ht hi⟩⟩
  rcases ht with h | ⟨c, h, _⟩
  · rw [h]; simp; omega
  · rw [h]; simp; omega

def LawPost (w : World) (e : Ending) (w' : World) : Prop := e = .returned (.bool true) ∧ Below w.heap.size w w'

set_option maxRecDepth 1000000 in
set_option maxHeartbeats 4000000 in
theorem law_any (w : World) (pa sa na qa : Option Addr) (np pc ns sc nn nc nq qc sb so : Nat) (P N Q : Nat → Int) (S : Nat → ByteArray) (hp : np ≤ 9223372036854775807) (hs : ns ≤ 9223372036854775807) (hn : nn ≤ 9223372036854775807) (hq : nq ≤ 9223372036854775807)
    (hP : Hid (Came w pa np pc (fun j => .int .u8 (P j)))) (hPr : Hid (∀ j, 0 ≤ P j ∧ P j ≤ 255)) (hS : Hid (Came w sa ns sc (fun j => .string (S j)))) (hSt : Hid (Strs w sa sb so ns S))
    (hN : Hid (Came w na nn nc (fun j => .int .i64 (N j)))) (hNr : Hid (∀ j, -9223372036854775808 ≤ N j ∧ N j ≤ 9223372036854775807)) (hQ : Hid (Came w qa nq qc (fun j => .int .u8 (Q j)))) (hQr : Hid (∀ j, 0 ≤ Q j ∧ Q j ≤ 255)) :
    Calls Try.prog 3 #[.slice pa np pc, .slice sa ns sc, .slice na nn nc, .slice qa nq qc] w (LawPost w) := by
  go_enter Try.func3, Try.ntmps3
  go_upto_if 27 with (go_at_call 7; refine (bytes_any _ _ _ _ _ np pc ns sc nn nc nq qc sb so S hp hs hn hq hSt).mono ?_; rintro x w' ⟨rfl, b, rfl⟩)
  cases b
  · go_wp2_with fail
    go_ret
    exact ⟨rfl, Below.refl _ _⟩
  · go_upto_if 33 with (go_at_call 8; refine (fits_any _ _ _ _ _ np pc ns sc nn nc nq qc sb so S hp hs hn hq hSt).mono ?_; rintro x w' ⟨rfl, b, rfl, hb⟩; have HF : Hid (b = true → np ≤ 65536 ∧ ns ≤ 65536 ∧ nn ≤ 65536 ∧ nq ≤ 65536 ∧ ∀ j, j < ns → (S j).size ≤ 1048576) := hb; clear hb)
    cases b
    · go_wp2_with fail
      go_ret
      exact ⟨rfl, Below.refl _ _⟩
    · obtain ⟨b1, b2, b3, b4, hss⟩ := HF.out rfl
      have HSS : Hid (∀ j, j < ns → (S j).size ≤ 1048576) := hss
      clear hss HF hSt
      go_upto_region 6 with (go_at_call 9; refine (clone9 w pa np pc _ b1 hP).mono ?_; rintro x w1 ⟨pg, pb, pcc, rfl, HB1, HP1⟩)
      have hS1 : Hid (Came w1 sa ns sc (fun j => .string (S j))) := hS.out.below HB1.out
      have hN1 : Hid (Came w1 na nn nc (fun j => .int .i64 (N j))) := hN.out.below HB1.out
      have hQ1 : Hid (Came w1 qa nq qc (fun j => .int .u8 (Q j))) := hQ.out.below HB1.out
      clear hP hS hN hQ
      go_upto_region 7 with (go_at_call 10; refine (clone10 w1 sa ns sc _ b2 hS1).mono ?_; rintro x w2 ⟨sg, sb2, scc, rfl, HB2, HS2⟩)
      have hN2 : Hid (Came w2 na nn nc (fun j => .int .i64 (N j))) := hN1.out.below HB2.out
      have hQ2 : Hid (Came w2 qa nq qc (fun j => .int .u8 (Q j))) := hQ1.out.below HB2.out
      have HP2 : Hid (Inp w2 pb pg np (fun j => .int .u8 (P j))) := HP1.out.below HB2.out
      clear hS1 hN1 hQ1 HP1
      go_upto_region 8 with (go_at_call 11; refine (clone11 w2 na nn nc _ b3 hN2).mono ?_; rintro x w3 ⟨ng, nb, ncc, rfl, HB3, HN3⟩)
      have hQ3 : Hid (Came w3 qa nq qc (fun j => .int .u8 (Q j))) := hQ2.out.below HB3.out
      have HP3 : Hid (Inp w3 pb pg np (fun j => .int .u8 (P j))) := HP2.out.below HB3.out
      have HS3 : Hid (Inp w3 sb2 sg ns (fun j => .string (S j))) := HS2.out.below HB3.out
      clear hN2 hQ2 HP2 HS2
      go_upto_region 9 with (go_at_call 9; refine (clone9 w3 qa nq qc _ b4 hQ3).mono ?_; rintro x w4 ⟨qg, qb, qcc, rfl, HB4, HQ4⟩)
      have HP4 : Hid (Inp w4 pb pg np (fun j => .int .u8 (P j))) := HP3.out.below HB4.out
      have HS4 : Hid (Inp w4 sb2 sg ns (fun j => .string (S j))) := HS3.out.below HB4.out
      have HN4 : Hid (Inp w4 nb ng nn (fun j => .int .i64 (N j))) := HN3.out.below HB4.out
      clear hQ3 HP3 HS3 HN3
      have HBa : Hid (Below w.heap.size w w4) := ((HB1.out.trans (HB2.out.mono HB1.out.size)).trans (HB3.out.mono (Nat.le_trans HB1.out.size HB2.out.size))).trans (HB4.out.mono (Nat.le_trans (Nat.le_trans HB1.out.size HB2.out.size) HB3.out.size))
      clear HB1 HB2 HB3 HB4
      go_upto_region 10 with (go_at_call 12; refine (build_any w4 pg sg ng qg np pcc pb ns scc sb2 nn ncc nb nq qcc qb P N Q S b1 b2 b3 b4 HP4 hPr HS4 HSS HN4 hNr HQ4 hQr).mono ?_; rintro x w5 hx; obtain ⟨n, D, E, K, da, db, dc, ka, kb, kc, ua, ub, uc, ea, eb, ec, rfl, hdc, hnl, HBc, HLD, HRD⟩ := read_facts hx; have HBb : Hid (Below w.heap.size w w5) := HBa.out.trans (HBc.out.mono HBa.out.size); clear hx HBc HP4 HS4 HN4 HQ4 hPr hNr hQr HSS HBa)
      go_wp2_with fail
      have HRG : Hid (∀ j, 0 ≤ D j ∧ D j ≤ 255) := HRD.out.range
      go_loopg [13, 14] np (fun g s13 s14 wr => ∃ (i p : Nat), i ≤ np ∧ g = np - i ∧ s14 = .int .i64 i ∧ s13 = .int .i64 p ∧ Hid (p = E i) ∧ Hid (Below w5.heap.size w5 wr))
      case atStart => exact ⟨0, 0, Nat.zero_le _, rfl, rfl, rfl, HRD.out.zero.symm, Below.refl _ _⟩
      case round =>
        obtain ⟨i, p, hi, rfl, rfl, rfl, HPI, HBW⟩ := hrel
        by_cases hlt : i < np
        · obtain ⟨e, k, HEI, HKI, h1, h2, HSEP, HSH, HND⟩ : ∃ (e : Nat) (k : Int), Hid (e = E (i + 1)) ∧ Hid (k = K i) ∧ p + 1 < e ∧ e ≤ n ∧ Hid (∀ j, p ≤ j → j < p + 1 → isSep (D j) = true) ∧ Hid (Shape D (p + 1) e k) ∧ Hid (e < n → isNum (D e) = false) := by
            have h := HRD.out.tok i hlt
            rw [← HPI.out] at h
            exact ⟨E (i + 1), K i, rfl, rfl, h.1, h.2.1, h.2.2.1, h.2.2.2.1, h.2.2.2.2⟩
          have HDA : Hid (DataAt wr db da n D) := (HLD.out.below HBW.out).data
          go_upto_region 15 with (go_at_call 13; refine (zn_tok wr db n dc p (p + 1) e da D k (by omega) HDA HRG (by omega) h1 h2 HSEP HSH HND hdc).mono ?_; rintro x w6 ⟨rfl, HB6⟩)
          have HL6 : Hid (Laid w6 n D np E K da db ka kb ua ub ea eb) := (HLD.out.below HBW.out).below HB6.out
          have ck : w6.cell? ⟨kb, i, none⟩ = some (.int .u8 k) := by rw [HKI.out]; exact HL6.out.kinds.cells i hlt
          have cs : w6.cell? ⟨ub, i, none⟩ = some (.int .i64 ((p + 1 : Nat) : Int)) := by rw [HPI.out]; exact HL6.out.starts.cells i hlt
          have ce : w6.cell? ⟨eb, i, none⟩ = some (.int .i64 (e : Int)) := by rw [HEI.out]; exact HL6.out.ends.cells i hlt
          have e1 := HL6.out.kinds.ad (by omega)
          have e2 := HL6.out.starts.ad (by omega)
          have e3 := HL6.out.ends.ad (by omega)
          have e4 := HL6.out.data.ad (by omega)
          have HC6 : Hid (∀ j, j < e - (p + 1) → w6.cell? ⟨db, p + 1 + j, none⟩ = some (.int .u8 (D (p + 1 + j)))) := fun j hj => HL6.out.data.bytes (p + 1 + j) (by omega)
          subst e1 e2 e3 e4
          have i1 : (i : Int) < (np : Int) := by omega
          have i2 : ((p + 1 : Nat) : Int) ≤ (e : Int) := by omega
          have i3 : (e : Int) ≤ (dc : Int) := by omega
          have i4 : ¬ dc = p + 1 := by omega
          go_quiet ((go_at_call 14; refine Calls.quiet_of (same_any _ db (p + 1) (e - (p + 1)) (dc - (p + 1)) (dc - (p + 1)) D (by omega) HC6)))
          have HB7 : Hid (Below w5.heap.size w5 (w6.drewN nq)) := (by have h := HBW.out.trans (HB6.out.mono HBW.out.size); exact ⟨h.os, h.tape, h.output, h.size, h.block⟩)
          go_wp2_with fail
          go_roundg (np - (i + 1))
          case measure => omega
          case rel => exact ⟨i + 1, e, by omega, rfl, by first | rfl | go_num, rfl, HEI, HB7⟩
        · have hie : i = np := by omega
          subst hie
          have hpn : p ≤ n := by rw [HPI.out]; exact HRD.out.fin
          have HPS : Hid (∀ j, p ≤ j → j < n → isSep (D j) = true) := by
            have h := HRD.out.seps
            rw [← HPI.out] at h
            exact h
          go_wp2_with fail
          go_loopg [13, 18] 2 (fun g s13 s18 wx => ∃ (r q : Nat), r ≤ 2 ∧ g = 2 - r ∧ s18 = .int .i64 r ∧ s13 = .int .i64 q ∧ q ≤ n ∧ Hid (∀ j, q ≤ j → j < n → isSep (D j) = true) ∧ Hid (Below w5.heap.size w5 wx))
          case atStart => exact ⟨0, p, Nat.zero_le _, rfl, rfl, rfl, hpn, HPS, HBW⟩
          case round =>
            obtain ⟨r, q, hr, rfl, rfl, rfl, hqn, HQS, HBX⟩ := hrel
            clear HPS HBW
            by_cases hr2 : r < 2
            · have HDA : Hid (DataAt wr db da n D) := (HLD.out.below HBX.out).data
              go_upto_region 22 with (go_at_call 13; refine (zn_end wr db n dc q da D (by omega) HDA hqn HQS).mono ?_; rintro x w7 ⟨rfl, HB7⟩)
              have HB8 : Hid (Below w5.heap.size w5 w7) := HBX.out.trans (HB7.out.mono HBX.out.size)
              go_wp2_with fail
              go_roundg (2 - (r + 1))
              case measure => omega
              case rel => exact ⟨r + 1, n, by omega, rfl, by first | rfl | go_num, rfl, Nat.le_refl _, fun j h1 h2 => absurd h2 (by omega), HB8⟩
            · have hre : r = 2 := by omega
              subst hre
              go_wp2_with fail
              go_ret
              exact ⟨rfl, HBb.out.trans (HBX.out.mono HBb.out.size)⟩
end Go.Proofs.Qxb6001736a
