import Derived.Test.Qxb6001736aWrt
import Derived.Deep.DeepCutAuto
import Derived.Deep.CutBlock
namespace Go.Proofs.Qxb6001736a
open Go.RowKit Go.ChangeShapes
set_option linter.unusedVariables false
set_option linter.unusedSimpArgs false

/-- The three rows as make lays them. -/
theorem binv_start {w0 w1 w2 w3 : World} {np : Nat} (o1 : w1.ownsRow w0.heap.size 5 1 (.slice (some ⟨w0.heap.size, 0, none⟩) 0 np) 0 []) (g1 : w0.grownBy w1 none)
    (o2 : w2.ownsRow w0.heap.size 3 1 (.slice (some ⟨w1.heap.size, 0, none⟩) 0 np) 0 []) (g2 : w1.grownBy w2 none)
    (o3 : w3.ownsRow w0.heap.size 3 1 (.slice (some ⟨w2.heap.size, 0, none⟩) 0 np) 0 []) (g3 : w2.grownBy w3 none) :
    BInv w0 (.slice none 0 0) [] (.slice (some ⟨w0.heap.size, 0, none⟩) 0 np) [] (.slice (some ⟨w1.heap.size, 0, none⟩) 0 np) [] (.slice (some ⟨w2.heap.size, 0, none⟩) 0 np) [] w3 := by
  have a1 : w0.heap.size < w1.heap.size := (own_blocks o1 _ rfl).2
  have a2 : w1.heap.size < w2.heap.size := (own_blocks o2 _ rfl).2
  have hn : ∀ y, Apart2 (.slice none 0 0) y := fun y g h => by simp [Value.ownBlock] at h
  have b1 : Below w0.heap.size w0 w1 := (Below.refl _ _).grown g1 (Nat.le_refl _) (fun k h => by cases h)
  have b2 : Below w0.heap.size w0 w2 := b1.grown g2 b1.size (fun k h => by cases h)
  have b3 : Below w0.heap.size w0 w3 := b2.grown g3 b2.size (fun k h => by cases h)
  refine ⟨World.ownsRow_nil _ _ _ _, (o1.kept g2 (.inr (by simp [Value.ownBlock]))).kept g3 (.inr (by simp [Value.ownBlock])), o2.kept g3 (.inr (by simp [Value.ownBlock])), o3, hn _, hn _, hn _, ?_, ?_, ?_, b3⟩
  · intro g h1 h2; simp [Value.ownBlock] at h1 h2; omega
  · intro g h1 h2; simp [Value.ownBlock] at h1 h2; omega
  · intro g h1 h2; simp [Value.ownBlock] at h1 h2; omega

/-- What zzlBuild hands back. -/
def BPost (w0 : World) (np : Nat) (x : Ending) (w' : World) : Prop :=
  ∃ (d kv sv ev : Value) (L tail : List Int) (E : Nat → Nat) (K : Nat → Int), x = .returned (.tuple #[d, kv, sv, ev]) ∧ Toks L np E K ∧ (tail = [] ∨ ∃ c, tail = [c] ∧ isSep c = true) ∧ L.length ≤ 144179200000 ∧
    BInv w0 d (L ++ tail) kv (kindsOf K np) sv (startsOf E np) ev (endsOf E np) w'

set_option maxRecDepth 1000000 in
set_option maxHeartbeats 4000000 in
theorem build_any (w0 : World) (pa sa na qa : Option Addr) (np pc pb ns sc sb nn nc nb nq qc qb : Nat) (P N Q : Nat → Int) (S : Nat → ByteArray) (hp : np ≤ 65536) (hs : ns ≤ 65536) (hnn : nn ≤ 65536) (hq : nq ≤ 65536)
    (hP : Hid (Inp w0 pb pa np (fun j => .int .u8 (P j)))) (hPr : Hid (∀ j, 0 ≤ P j ∧ P j ≤ 255)) (hS : Hid (Inp w0 sb sa ns (fun j => .string (S j)))) (hSs : Hid (∀ j, j < ns → (S j).size ≤ 1048576))
    (hN : Hid (Inp w0 nb na nn (fun j => .int .i64 (N j)))) (hNr : Hid (∀ j, -9223372036854775808 ≤ N j ∧ N j ≤ 9223372036854775807)) (hQ : Hid (Inp w0 qb qa nq (fun j => .int .u8 (Q j)))) (hQr : Hid (∀ j, 0 ≤ Q j ∧ Q j ≤ 255)) :
    Calls Try.prog 12 #[.slice pa np pc, .slice sa ns sc, .slice na nn nc, .slice qa nq qc] w0 (BPost w0 np) := by
  obtain ⟨i5, h5, hz50, hz51, hz52⟩ := info_parts Try.info5
  obtain ⟨i3, h3, hz30, hz31, hz32⟩ := info_parts Try.info3
  go_enter Try.func12, Try.ntmps12
  go_wp2_with (first
    | (at_make; refine wpList_make_own _ rfl _ (.tmp 34) 22 rfl w0.heap.size 5 i5 (.int .u8 0) 1 Try.underlying22 h5 hz50 hz51 .i64 .i64 _ np rfl rfl rfl (by rw [hz52]; omega) (by unfold maxLen; omega) (Nat.le_refl _) ?_; intro w1 o1 g1; have z1 : w0.heap.size ≤ w1.heap.size := g1.size; have O1 : Hid (w1.ownsRow w0.heap.size 5 1 (.slice (some ⟨w0.heap.size, 0, none⟩) 0 np) 0 [] ∧ w0.grownBy w1 none) := ⟨o1, g1⟩; clear o1 g1)
    | (at_make; refine wpList_make_own _ rfl _ (.tmp 37) 30 rfl w0.heap.size 3 i3 (.int .i64 0) 1 Try.underlying30 h3 hz30 hz31 .i64 .i64 _ np rfl rfl rfl (by rw [hz32]; omega) (by unfold maxLen; omega) (by omega) ?_; intro w2 o2 g2; have z2 : w1.heap.size ≤ w2.heap.size := g2.size; have O2 : Hid (w2.ownsRow w0.heap.size 3 1 (.slice (some ⟨w1.heap.size, 0, none⟩) 0 np) 0 [] ∧ w1.grownBy w2 none) := ⟨o2, g2⟩; clear o2 g2)
    | (at_make; refine wpList_make_own _ rfl _ (.tmp 40) 30 rfl w0.heap.size 3 i3 (.int .i64 0) 1 Try.underlying30 h3 hz30 hz31 .i64 .i64 _ np rfl rfl rfl (by rw [hz32]; omega) (by unfold maxLen; omega) (by omega) ?_; intro w3 o3 g3; have O3 : Hid (w3.ownsRow w0.heap.size 3 1 (.slice (some ⟨w2.heap.size, 0, none⟩) 0 np) 0 [] ∧ w2.grownBy w3 none) := ⟨o3, g3⟩; clear o3 g3))
  have HB0 : Hid (BInv w0 (.slice none 0 0) [] (.slice (some ⟨w0.heap.size, 0, none⟩) 0 np) [] (.slice (some ⟨w1.heap.size, 0, none⟩) 0 np) [] (.slice (some ⟨w2.heap.size, 0, none⟩) 0 np) [] w3) := binv_start O1.out.1 O1.out.2 O2.out.1 O2.out.2 O3.out.1 O3.out.2
  clear O1 O2 O3
  go_loopg [12, 13, 14, 15, 16, 17, 18] np (fun g s12 s13 s14 s15 s16 s17 s18 wr => ∃ (i si ni : Nat) (L kl sl el : List Int) (E : Nat → Nat) (K : Nat → Int), i ≤ np ∧ g = np - i ∧ s18 = .int .i64 i ∧ s16 = .int .i64 si ∧ si ≤ i ∧ s17 = .int .i64 ni ∧ ni ≤ 3 * i ∧ L.length ≤ 2200000 * i ∧ kl.length = i ∧ sl.length = i ∧ el.length = i ∧ Hid (kl = kindsOf K i ∧ sl = startsOf E i ∧ el = endsOf E i) ∧ Hid (Toks L i E K) ∧ Hid (BInv w0 s12 L s13 kl s14 sl s15 el wr))
  case atStart => exact ⟨0, 0, 0, [], [], [], [], fun _ => 0, fun _ => 0, Nat.zero_le _, rfl, rfl, rfl, Nat.le_refl _, rfl, Nat.zero_le _, Nat.zero_le _, rfl, rfl, rfl, ⟨rfl, rfl, rfl⟩, Toks.start _ rfl _, HB0⟩
  case round =>
    obtain ⟨i, si, ni, L, kl, sl, el, E, K, hi, rfl, rfl, rfl, hsi, rfl, hni, hL, hkl, hsl, hel, HE, HT, HB⟩ := hrel
    clear HB0 z1 z2
    by_cases hlt : i < np
    · have hsz := HB.out.below.size
      have hpa := hP.out.ad (by omega)
      subst hpa
      go_upto_if 50 with (fail)
      go_cut [19] (fun s19 wx => ∃ c : Int, s19 = .int .u8 c ∧ Hid (isSep c = true) ∧ wr = wx)
      case first => as_aux_lemma =>
        by_cases hq0 : 0 < nq
        · have had := hQ.out.ad hq0
          have hmod : i % nq < nq := Nat.mod_lt _ hq0
          have hcl := (hQ.out.below HB.out.below).cells (i % nq) hmod
          have hqr := hQr.out (i % nq)
          obtain ⟨m, hm⟩ : ∃ m, m = i % nq := ⟨_, rfl⟩
          have hcast : ((i : Int) % (nq : Int)) = (m : Int) := by rw [hm]; omega
          rw [← hm] at hcl hqr hmod
          obtain ⟨z, hz⟩ : ∃ z, z = Q m := ⟨_, rfl⟩
          rw [← hz] at hcl hqr
          subst had
          clear hz hm
          go_wp2_with (first | (go_at_call 21; refine (sep_any _ _ hqr.1 hqr.2).mono ?_; rintro x w' ⟨⟨c, rfl, hc⟩, hw⟩; obtain rfl := hw.symm; have HC : Hid (isSep c = true) := hc; clear hc) | rw [hcast])
          go_meet
          exact ⟨c, rfl, HC, rfl⟩
        · have hq1 : nq = 0 := by omega
          subst hq1
          go_wp2_with fail
          go_meet
          exact ⟨32, rfl, by show _ = _; decide, rfl⟩
      case rest => as_aux_lemma =>
        obtain ⟨c, rfl, HC, rfl⟩ := hcut
        go_upto_block 2 with (at_builtin; refine append_byte rfl (.tmp 59) (.tmp 61) rfl w0.heap.size u12 L c rfl rfl HB.out.data (by omega) hsz ?_; intro v1 w1 L1 HL1 hl1 hl1' hz1 HG1; have HB1 : Hid (BInv w0 v1 L1 u13 kl u14 sl u15 el w1) := HB.out.grew HG1.out; obtain ⟨a1, c1, rfl⟩ := own_form HB1.out.data.own; obtain ⟨p, hpr0, hpr1, hpk⟩ : ∃ p : Int, 0 ≤ p ∧ p ≤ 255 ∧ w1.cell? ⟨pb, i, none⟩ = some (.int .u8 p) := ⟨P i, (hPr.out i).1, (hPr.out i).2, (hP.out.below HB1.out.below).cells i hlt⟩; clear HG1; replace hz1 : w0.heap.size ≤ w1.heap.size := Nat.le_trans hsz hz1)
        have HO1 : Hid (OwnB w1 w0.heap.size (.slice a1 L1.length c1) L1) := HB1.out.data
        clear hpk
        go_cut [12, 16, 17, 22, 70] (fun s12 s16 s17 s22 s70 wx => ∃ (si' ni' : Nat) (k : Int), s16 = .int .i64 si' ∧ si' ≤ si + 1 ∧ s17 = .int .i64 ni' ∧ ni' ≤ ni + 3 ∧ s22 = .int .u8 k ∧ Hid (Wrote w1 w0.heap.size (.slice a1 L1.length c1) L1 s12 k wx))
        case first => as_aux_lemma =>
          have h8 : p % 8 = 0 ∨ p % 8 = 1 ∨ p % 8 = 2 ∨ p % 8 = 3 ∨ p % 8 = 4 ∨ p % 8 = 5 ∨ p % 8 = 6 ∨ p % 8 = 7 := by omega
          rcases h8 with h8 | h8 | h8 | h8 | h8 | h8 | h8 | h8
          · as_aux_lemma =>
            try rw [h8]
            go_wp2_with (at_builtin; refine append_byte rfl (.tmp 86) (.tmp 88) rfl w0.heap.size _ L1 123 rfl rfl HO1 (by omega) hz1 ?_; intro v2 w2 L2 HL2 hl2 hl2' hz2 HG2)
            go_meet
            exact ⟨si, ni, 123, rfl, by omega, rfl, by omega, rfl, wrote_one HL2 HG2 (by omega)⟩
          · as_aux_lemma =>
            try rw [h8]
            go_wp2_with (at_builtin; refine append_byte rfl (.tmp 92) (.tmp 94) rfl w0.heap.size _ L1 125 rfl rfl HO1 (by omega) hz1 ?_; intro v2 w2 L2 HL2 hl2 hl2' hz2 HG2)
            go_meet
            exact ⟨si, ni, 125, rfl, by omega, rfl, by omega, rfl, wrote_one HL2 HG2 (by omega)⟩
          · as_aux_lemma =>
            try rw [h8]
            go_wp2_with (at_builtin; refine append_byte rfl (.tmp 98) (.tmp 100) rfl w0.heap.size _ L1 91 rfl rfl HO1 (by omega) hz1 ?_; intro v2 w2 L2 HL2 hl2 hl2' hz2 HG2)
            go_meet
            exact ⟨si, ni, 91, rfl, by omega, rfl, by omega, rfl, wrote_one HL2 HG2 (by omega)⟩
          · as_aux_lemma =>
            try rw [h8]
            go_wp2_with (at_builtin; refine append_byte rfl (.tmp 104) (.tmp 106) rfl w0.heap.size _ L1 93 rfl rfl HO1 (by omega) hz1 ?_; intro v2 w2 L2 HL2 hl2 hl2' hz2 HG2)
            go_meet
            exact ⟨si, ni, 93, rfl, by omega, rfl, by omega, rfl, wrote_one HL2 HG2 (by omega)⟩
          · as_aux_lemma =>
            try rw [h8]
            by_cases hsn : si < ns
            · have hsa := hS.out.ad (by omega)
              obtain ⟨t, hss, HSC⟩ : ∃ t : ByteArray, t.size ≤ 1048576 ∧ Hid (∀ W, Below w0.heap.size w0 W → W.cell? ⟨sb, si, none⟩ = some (.string t)) := ⟨S si, hSs.out si hsn, fun W hW => (hS.out.below hW).cells si hsn⟩
              subst hsa
              go_upto_block 4 with (at_builtin; refine append_byte rfl (.tmp 110) (.tmp 111) rfl w0.heap.size _ L1 34 rfl rfl HO1 (by omega) hz1 ?_; intro v2 w2 L2 HL2 hl2 hl2' hz2 HG2; have hsc2 := HSC.out _ (HB1.out.grew HG2.out).below; have HS0 := strg_start t HL2 HG2; clear HG2 HL2)
              go_cut [12] from 124 to 144 (fun s12 wx => ∃ L3 : List Int, L3.length ≤ L1.length + 1 + 2 * t.size ∧ w0.heap.size ≤ wx.heap.size ∧ Hid (Strg w1 w0.heap.size (.slice a1 (L1.length) c1) L1 t t.size L3 s12 wx))
              case first => as_aux_lemma =>
                go_wp2_with fail
                go_loopg [12, 24] t.size (fun g s12 s24 wx => ∃ (k : Nat) (L3 : List Int), k ≤ t.size ∧ g = t.size - k ∧ s24 = .int .i64 k ∧ L3.length ≤ L1.length + 1 + 2 * k ∧ w0.heap.size ≤ wx.heap.size ∧ Hid (Strg w1 w0.heap.size (.slice a1 (L1.length) c1) L1 t k L3 s12 wx))
                case atStart => exact ⟨0, L2, Nat.zero_le _, rfl, rfl, by omega, by omega, HS0⟩
                case round =>
                  obtain ⟨k, L3, hk, rfl, rfl, hl3, hz3, HS3⟩ := hrel
                  clear HS0 hsc2 HSC
                  by_cases hkt : k < t.size
                  · go_upto_region 48 with (fail)
                    go_cut [25] from 129 to 131 (fun s25 wx => ∃ b : Int, s25 = .int .u8 b ∧ 0 ≤ b ∧ b ≤ 255 ∧ Hid (b = ((t[k]'hkt).toNat : Int)) ∧ wr = wx)
                    case first => as_aux_lemma =>
                      go_wp2_with fail
                      go_meet
                      exact ⟨_, rfl, by omega, by have := (t[k]'hkt).toNat_lt; omega, rfl, rfl⟩
                    case rest => as_aux_lemma =>
                      obtain ⟨b, rfl, hb0, hb1, HBT, rfl⟩ := hcut
                      by_cases hb34 : b = 34 ∨ b = 92
                      · rcases hb34 with rfl | rfl
                        all_goals
                          go_upto_region 51 with (at_builtin; refine append_byte rfl (.tmp 138) (.tmp 139) rfl w0.heap.size _ L3 92 rfl rfl (Strg.own HS3) (by omega) hz3 ?_; intro v4 w4 L4 HL4 hl4 hl4' hz4 HG4)
                          go_wp2_with (at_builtin; refine append_byte rfl (.tmp 141) (.tmp 143) rfl w0.heap.size _ L4 _ rfl rfl HG4.out.own (by omega) (by omega) ?_; intro v5 w5 L5 HL5 hl5 hl5' hz5 HG5)
                          go_roundg (t.size - (k + 1))
                          case measure => omega
                          case rel => exact ⟨k + 1, L5, by omega, rfl, by first | rfl | go_num, by omega, by omega, Strg.escd HS3 hkt HBT.out (by omega) HL4 HG4 HL5 HG5⟩
                      · have hb1' : (b == 34) = false := beq_eq_false_iff_ne.2 (by omega)
                        have hb2' : (b == 92) = false := beq_eq_false_iff_ne.2 (by omega)
                        go_wp2_with (at_builtin; refine append_byte rfl (.tmp 141) (.tmp 143) rfl w0.heap.size _ L3 _ rfl rfl (Strg.own HS3) (by omega) hz3 ?_; intro v5 w5 L5 HL5 hl5 hl5' hz5 HG5)
                        go_roundg (t.size - (k + 1))
                        case measure => omega
                        case rel => exact ⟨k + 1, L5, by omega, rfl, by first | rfl | go_num, by omega, by omega, Strg.plain HS3 hkt HBT.out (by omega) (by omega) HL5 HG5⟩
                  · have hke : k = t.size := by omega
                    subst hke
                    go_wp2_with fail
                    go_meet
                    exact ⟨L3, hl3, hz3, HS3⟩
              case rest => as_aux_lemma =>
                obtain ⟨L3, hl3, hz3, HS3⟩ := hcut
                go_wp2_with (at_builtin; refine append_byte rfl (.tmp 145) (.tmp 146) rfl w0.heap.size _ L3 34 rfl rfl (Strg.own HS3) (by omega) hz3 ?_; intro v4 w4 L4 HL4 hl4 hl4' hz4 HG4)
                go_meet
                exact ⟨si + 1, ni, 34, rfl, by omega, rfl, by omega, rfl, Strg.wrote HS3 hss HL4 HG4⟩
            · go_wp2_with (first | (at_builtin; refine append_byte rfl (.tmp 110) (.tmp 111) rfl w0.heap.size _ L1 34 rfl rfl HO1 (by omega) hz1 ?_; intro v2 w2 L2 HL2 hl2 hl2' hz2 HG2) | (at_builtin; refine append_byte rfl (.tmp 145) (.tmp 146) rfl w0.heap.size _ L2 34 rfl rfl HG2.out.own (by omega) (by omega) ?_; intro v3 w3 L3 HL3 hl3 hl3' hz3 HG3))
              go_meet
              exact ⟨si, ni, 34, rfl, by omega, rfl, by omega, rfl, strg_none HL2 HG2 HL3 HG3⟩
          · as_aux_lemma =>
            try rw [h8]
            go_upto_if 154 with (fail)
            go_cut [17, 26] from 154 to 160 (fun s17 s26 wx => ∃ (n1 : Nat) (z : Int), s17 = .int .i64 n1 ∧ n1 ≤ ni + 1 ∧ s26 = .int .i64 z ∧ -9223372036854775808 ≤ z ∧ z ≤ 9223372036854775807 ∧ w1 = wx)
            case first => as_aux_lemma =>
              by_cases hnn2 : ni < nn
              · have hna := hN.out.ad (by omega)
                obtain ⟨z, hzr0, hzr1, hzc⟩ : ∃ z : Int, -9223372036854775808 ≤ z ∧ z ≤ 9223372036854775807 ∧ w1.cell? ⟨nb, ni, none⟩ = some (.int .i64 z) := ⟨N ni, (hNr.out ni).1, (hNr.out ni).2, (hN.out.below HB1.out.below).cells ni hnn2⟩
                subst hna
                go_wp2_with fail
                go_meet
                exact ⟨ni + 1, z, rfl, by omega, rfl, hzr0, hzr1, rfl⟩
              · go_wp2_with fail
                go_meet
                exact ⟨ni, 0, rfl, by omega, rfl, by omega, by omega, rfl⟩
            case rest => as_aux_lemma =>
              obtain ⟨n1, z, rfl, hn1, rfl, hzr0, hzr1, rfl⟩ := hcut
              go_upto_region 61 with (go_at_call 22; refine (int_any _ w0.heap.size _ L1.length z (L1.map (Value.int .u8)) hzr0 hzr1 (by omega) HO1 hz1).mono ?_; rintro x w2 hx; obtain ⟨v2, L2, rfl, hl2, hl2', hz2, N2⟩ := numg_app (fun _ h => h) hx; clear hx)
              go_wp2_with (rw [h8])
              go_meet
              exact ⟨si, n1, 48, rfl, by omega, rfl, by omega, rfl, Numg.wrote N2 (by omega)⟩
          · as_aux_lemma =>
            try rw [h8]
            go_upto_if 154 with (fail)
            go_cut [17, 26] from 154 to 160 (fun s17 s26 wx => ∃ (n1 : Nat) (z : Int), s17 = .int .i64 n1 ∧ n1 ≤ ni + 1 ∧ s26 = .int .i64 z ∧ -9223372036854775808 ≤ z ∧ z ≤ 9223372036854775807 ∧ w1 = wx)
            case first => as_aux_lemma =>
              by_cases hnn2 : ni < nn
              · have hna := hN.out.ad (by omega)
                obtain ⟨z, hzr0, hzr1, hzc⟩ : ∃ z : Int, -9223372036854775808 ≤ z ∧ z ≤ 9223372036854775807 ∧ w1.cell? ⟨nb, ni, none⟩ = some (.int .i64 z) := ⟨N ni, (hNr.out ni).1, (hNr.out ni).2, (hN.out.below HB1.out.below).cells ni hnn2⟩
                subst hna
                go_wp2_with fail
                go_meet
                exact ⟨ni + 1, z, rfl, by omega, rfl, hzr0, hzr1, rfl⟩
              · go_wp2_with fail
                go_meet
                exact ⟨ni, 0, rfl, by omega, rfl, by omega, by omega, rfl⟩
            case rest => as_aux_lemma =>
              obtain ⟨n1, z, rfl, hn1, rfl, hzr0, hzr1, rfl⟩ := hcut
              go_upto_region 61 with (go_at_call 22; refine (int_any _ w0.heap.size _ L1.length z (L1.map (Value.int .u8)) hzr0 hzr1 (by omega) HO1 hz1).mono ?_; rintro x w2 hx; obtain ⟨v2, L2, rfl, hl2, hl2', hz2, N2⟩ := numg_app (fun _ h => h) hx; clear hx)
              go_upto_region 62 with (rw [h8])
              go_cut [27] from 167 to 168 (fun s27 wx => ∃ q : Int, s27 = .int .u8 q ∧ 0 ≤ q ∧ q ≤ 31 ∧ w2 = wx)
              case first => as_aux_lemma =>
                go_wp2_with fail
                go_meet
                exact ⟨p / 8, rfl, by omega, by omega, rfl⟩
              case rest => as_aux_lemma =>
                obtain ⟨q, rfl, hq0, hq1, rfl⟩ := hcut
                go_upto_region 64 with (fail)
                go_cut [29] from 171 to 172 (fun s29 wx => ∃ b : Bool, s29 = .bool b ∧ w2 = wx)
                case first => as_aux_lemma =>
                  go_wp2_with fail
                  go_meet
                  exact ⟨_, rfl, rfl⟩
                case rest => as_aux_lemma =>
                  obtain ⟨hf, rfl, rfl⟩ := hcut
                  go_upto_region 65 with (fail)
                  go_cut [30] from 173 to 174 (fun s30 wx => ∃ b : Bool, s30 = .bool b ∧ w2 = wx)
                  case first => as_aux_lemma =>
                    go_wp2_with fail
                    go_meet
                    exact ⟨_, rfl, rfl⟩
                  case rest => as_aux_lemma =>
                    obtain ⟨he, rfl, rfl⟩ := hcut
                    have HBw : Hid (Below w0.heap.size w0 w2) := (HB1.out.grew N2.out.1).below
                    go_upto_if 175 with (fail)
                    go_cut [12, 17] from 175 to 192 (fun s12 s17 wx => ∃ (n3 : Nat) (L3 : List Int), s17 = .int .i64 n3 ∧ n3 ≤ ni + 2 ∧ L3.length ≤ L1.length + 100 ∧ w0.heap.size ≤ wx.heap.size ∧ Hid (Numg w1 w0.heap.size (.slice a1 L1.length c1) L1 L3 s12 wx))
                    case first => as_aux_lemma =>
                      cases hf
                      · go_wp2_with fail
                        go_meet
                        exact ⟨n1, L2, rfl, by omega, by omega, by omega, N2⟩
                      · go_upto_if 179 with (fail)
                        go_cut [17, 31] from 179 to 186 (fun s17 s31 wx => ∃ (n3 u : Nat), s17 = .int .i64 n3 ∧ n3 ≤ n1 + 1 ∧ s31 = .int .u64 u ∧ u < 10000000000000000000 ∧ w2 = wx)
                        case first => as_aux_lemma =>
                          by_cases hnn3 : n1 < nn
                          · have hna := hN.out.ad (by omega)
                            obtain ⟨y, hy0, hy1, hyc⟩ : ∃ z : Int, -9223372036854775808 ≤ z ∧ z ≤ 9223372036854775807 ∧ w2.cell? ⟨nb, n1, none⟩ = some (.int .i64 z) := ⟨N n1, (hNr.out n1).1, (hNr.out n1).2, (hN.out.below HBw.out).cells n1 hnn3⟩
                            subst hna
                            go_wp2_with (go_at_call 23; refine (mag_any _ _ hy0 hy1).mono ?_; rintro x w' ⟨⟨u, rfl, hu⟩, hw⟩; obtain rfl := hw.symm)
                            go_meet
                            exact ⟨n1 + 1, u, rfl, by omega, rfl, hu, rfl⟩
                          · go_wp2_with fail
                            go_meet
                            exact ⟨n1, 25, rfl, by omega, rfl, by omega, rfl⟩
                        case rest => as_aux_lemma =>
                          obtain ⟨n3, u, rfl, hn3, rfl, hu, rfl⟩ := hcut
                          go_upto_region 72 with (at_builtin; refine append_byte rfl (.tmp 187) (.tmp 188) rfl w0.heap.size _ L2 46 rfl rfl (Numg.own N2) (by omega) (by omega) ?_; intro v3 w3 L3 HL3 hl3 hl3' hz3 HG3; have N3 := Numg.byte N2 HL3 HG3 (by decide); clear HL3 HG3)
                          go_wp2_with (go_at_call 24; refine (uint_any _ w0.heap.size _ L3.length u (L3.map (Value.int .u8)) hu (by omega) (Numg.owns N3) (by omega)).mono ?_; rintro x w4 hx; obtain ⟨v4, L4, rfl, hl4, hl4', hz4, N4⟩ := numg_app (fun _ h => h.nums) hx; clear hx)
                          go_meet
                          exact ⟨n3, L4, rfl, by omega, by omega, by omega, Numg.trans N3 N4⟩
                    case rest => as_aux_lemma =>
                      obtain ⟨n3, L3, rfl, hn3, hl3, hz3, N3⟩ := hcut
                      clear HBw N2
                      have HBw : Hid (Below w0.heap.size w0 wc) := (HB1.out.grew N3.out.1).below
                      cases he
                      · go_wp2_with fail
                        go_meet
                        exact ⟨si, n3, 48, rfl, by omega, rfl, by omega, rfl, Numg.wrote N3 (by omega)⟩
                      · go_upto_if 197 with (fail)
                        go_cut [17, 32] from 197 to 204 (fun s17 s32 wx => ∃ (n5 u : Nat), s17 = .int .i64 n5 ∧ n5 ≤ n3 + 1 ∧ s32 = .int .u64 u ∧ u < 10000000000000000000 ∧ wc = wx)
                        case first => as_aux_lemma =>
                          by_cases hnn3 : n3 < nn
                          · have hna := hN.out.ad (by omega)
                            obtain ⟨y, hy0, hy1, hyc⟩ : ∃ z : Int, -9223372036854775808 ≤ z ∧ z ≤ 9223372036854775807 ∧ wc.cell? ⟨nb, n3, none⟩ = some (.int .i64 z) := ⟨N n3, (hNr.out n3).1, (hNr.out n3).2, (hN.out.below HBw.out).cells n3 hnn3⟩
                            subst hna
                            go_wp2_with (go_at_call 23; refine (mag_any _ _ hy0 hy1).mono ?_; rintro x w' ⟨⟨u, rfl, hu⟩, hw⟩; obtain rfl := hw.symm)
                            go_meet
                            exact ⟨n3 + 1, u, rfl, by omega, rfl, hu, rfl⟩
                          · go_wp2_with fail
                            go_meet
                            exact ⟨n3, 7, rfl, by omega, rfl, by omega, rfl⟩
                        case rest => as_aux_lemma =>
                          obtain ⟨n5, u, rfl, hn5, rfl, hu, rfl⟩ := hcut
                          go_upto_region 78 with (fail)
                          go_cut [208] from 205 to 208 (fun s208 wx => ∃ b : Bool, s208 = .bool b ∧ wc = wx)
                          case first => as_aux_lemma =>
                            go_wp2_with fail
                            go_meet
                            exact ⟨_, rfl, rfl⟩
                          case rest => as_aux_lemma =>
                            obtain ⟨hE, rfl, rfl⟩ := hcut
                            go_upto_if 208 with (fail)
                            go_cut [12] from 208 to 214 (fun s12 wx => ∃ L5 : List Int, L5.length ≤ L1.length + 101 ∧ w0.heap.size ≤ wx.heap.size ∧ Hid (Numg w1 w0.heap.size (.slice a1 L1.length c1) L1 L5 s12 wx))
                            case first => as_aux_lemma =>
                              cases hE
                              · go_wp2_with (at_builtin; refine append_byte rfl (.tmp 212) (.tmp 213) rfl w0.heap.size _ L3 69 rfl rfl (Numg.own N3) (by omega) (by omega) ?_; intro v5 w5 L5 HL5 hl5 hl5' hz5 HG5; have N5 := Numg.byte N3 HL5 HG5 (by decide); clear HL5 HG5)
                                go_meet
                                exact ⟨L5, by omega, by omega, N5⟩
                              · go_wp2_with (at_builtin; refine append_byte rfl (.tmp 209) (.tmp 210) rfl w0.heap.size _ L3 101 rfl rfl (Numg.own N3) (by omega) (by omega) ?_; intro v5 w5 L5 HL5 hl5 hl5' hz5 HG5; have N5 := Numg.byte N3 HL5 HG5 (by decide); clear HL5 HG5)
                                go_meet
                                exact ⟨L5, by omega, by omega, N5⟩
                            case rest => as_aux_lemma =>
                              clear HBw hz3
                              obtain ⟨L5, hl5, hz5, N5⟩ := hcut
                              clear N3 hl3
                              rename_i wc0 _ _ _ wc1
                              go_upto_region 81 with (fail)
                              go_cut [216] from 215 to 216 (fun s216 wx => ∃ r : Int, s216 = .int .u8 r ∧ 0 ≤ r ∧ r ≤ 3 ∧ wc = wx)
                              case first => as_aux_lemma =>
                                go_wp2_with fail
                                go_meet
                                exact ⟨q / 8, rfl, by omega, by omega, rfl⟩
                              case rest => as_aux_lemma =>
                                obtain ⟨r, rfl, hr0, hr1, rfl⟩ := hcut
                                go_upto_block 6 with (fail)
                                go_cut [12, 216] from 217 to 226 (fun s12 s216 wx => ∃ L7 : List Int, L7.length ≤ L1.length + 102 ∧ w0.heap.size ≤ wx.heap.size ∧ Hid (Numg w1 w0.heap.size (.slice a1 L1.length c1) L1 L7 s12 wx))
                                case first => as_aux_lemma =>
                                  by_cases hr : r = 0
                                  · subst hr
                                    go_wp2_with (at_builtin; refine append_byte rfl (.tmp 219) (.tmp 220) rfl w0.heap.size _ L5 43 rfl rfl (Numg.own N5) (by omega) (by omega) ?_; intro v7 w7 L7 HL7 hl7 hl7' hz7 HG7; have N7 := Numg.byte N5 HL7 HG7 (by decide); clear HL7 HG7)
                                    go_meet
                                    exact ⟨L7, by omega, by omega, N7⟩
                                  · by_cases hr2 : r = 1
                                    · subst hr2
                                      go_wp2_with (at_builtin; refine append_byte rfl (.tmp 224) (.tmp 225) rfl w0.heap.size _ L5 45 rfl rfl (Numg.own N5) (by omega) (by omega) ?_; intro v7 w7 L7 HL7 hl7 hl7' hz7 HG7; have N7 := Numg.byte N5 HL7 HG7 (by decide); clear HL7 HG7)
                                      go_meet
                                      exact ⟨L7, by omega, by omega, N7⟩
                                    · have hra : (r == 0) = false := beq_eq_false_iff_ne.2 hr
                                      have hrb : (r == 1) = false := beq_eq_false_iff_ne.2 hr2
                                      go_wp2_with fail
                                      go_meet
                                      exact ⟨L5, by omega, by omega, N5⟩
                                case rest => as_aux_lemma =>
                                  obtain ⟨L7, hl7, hz7, N7⟩ := hcut
                                  go_wp2_with (go_at_call 24; refine (uint_any _ w0.heap.size _ L7.length u (L7.map (Value.int .u8)) hu (by omega) (Numg.owns N7) (by omega)).mono ?_; rintro x w8 hx; obtain ⟨v8, L8, rfl, hl8, hl8', hz8, N8⟩ := numg_app (fun _ h => h.nums) hx; clear hx)
                                  go_meet
                                  exact ⟨si, n5, 48, rfl, by omega, rfl, by omega, rfl, Numg.wrote (Numg.trans N7 N8) (by omega)⟩
          · have h3 : p / 8 % 3 = 0 ∨ p / 8 % 3 = 1 ∨ p / 8 % 3 = 2 := by omega
            rcases h3 with h3 | h3 | h3
            · as_aux_lemma =>
              try rw [h8]
              go_wp2_with (first | (go_at_call 25; refine (text_any _ w0.heap.size _ _ L1 (by decide) (by omega) HO1 hz1).mono ?_; rintro x w2 ⟨v2, rfl, HG2⟩) | rw [h3])
              go_meet
              exact ⟨si, ni, 116, rfl, by omega, rfl, by omega, rfl, wrote_text HG2 (by decide)⟩
            · as_aux_lemma =>
              try rw [h8]
              go_wp2_with (first | (go_at_call 25; refine (text_any _ w0.heap.size _ _ L1 (by decide) (by omega) HO1 hz1).mono ?_; rintro x w2 ⟨v2, rfl, HG2⟩) | rw [h3])
              go_meet
              exact ⟨si, ni, 102, rfl, by omega, rfl, by omega, rfl, wrote_text HG2 (by decide)⟩
            · as_aux_lemma =>
              try rw [h8]
              go_wp2_with (first | (go_at_call 25; refine (text_any _ w0.heap.size _ _ L1 (by decide) (by omega) HO1 hz1).mono ?_; rintro x w2 ⟨v2, rfl, HG2⟩) | rw [h3])
              go_meet
              exact ⟨si, ni, 110, rfl, by omega, rfl, by omega, rfl, wrote_text HG2 (by decide)⟩
        case rest => as_aux_lemma =>
          obtain ⟨si', ni', k, rfl, hsi', rfl, hni', rfl, HW⟩ := hcut
          obtain ⟨L2, hl2, HT2, HB2⟩ := Wrote.binv HW HB1 HT HC HL1
          obtain ⟨E2, hE2⟩ : ∃ E2, E2 = withE E i L2.length := ⟨_, rfl⟩
          have hEn : Hid (E i = L.length) := HT.out.last
          have hsz2 := HB2.out.below.size
          obtain ⟨a2, c2, hv2⟩ := own_form HB2.out.data.own
          subst hv2
          clear HW HB1 HO1
          go_upto_region 88 with (at_builtin; refine append_kind rfl (.tmp 230) (.tmp 232) rfl k rfl rfl HB2 (by omega) ?_; intro v3 w3 HB3)
          go_upto_region 89 with (at_builtin; refine append_start rfl (.tmp 234) (.tmp 236) rfl L1.length rfl rfl HB3 (by omega) ?_; intro v4 w4 HB4)
          go_wp2_with (at_builtin; refine append_end rfl (.tmp 238) (.tmp 241) rfl L2.length rfl rfl HB4 (by omega) ?_; intro v5 w5 HB5)
          go_roundg (np - (i + 1))
          case measure => omega
          case rel => exact ⟨i + 1, si', ni', L2, _, _, _, _, _, by omega, rfl, by simp, rfl, by omega, rfl, by omega, by omega, by simp; omega, by simp; omega, by simp; omega, ⟨by rw [HE.out.1, kinds_step], by rw [HE.out.2.1, starts_step, hEn.out, HL1.out]; simp, by rw [HE.out.2.2, ends_step]⟩, HT2, HB5⟩
    · as_aux_lemma =>
      have hin : i = np := by omega
      subst hin
      have hsz := HB.out.below.size
      by_cases hq0 : 0 < nq
      · have had := hQ.out.ad hq0
        have hcl := (hQ.out.below HB.out.below).cells 0 hq0
        have hqr := hQr.out 0
        obtain ⟨z, hz⟩ : ∃ z, z = Q 0 := ⟨_, rfl⟩
        rw [← hz] at hcl hqr
        subst had
        clear hz
        go_wp2_with (first
          | (go_at_call 21; refine (sep_any _ _ hqr.1 hqr.2).mono ?_; rintro x w' ⟨⟨c, rfl, hc⟩, hw⟩; obtain rfl := hw.symm; have HC : Hid (isSep c = true) := hc; clear hc)
          | (at_builtin; refine append_byte rfl (.tmp 246) (.tmp 251) rfl w0.heap.size u12 L c rfl rfl HB.out.data (by omega) hsz ?_; intro v1 w1 L1 HL1 hl1 hl1' hz1 HG1; have HB1 : Hid (BInv w0 v1 L1 u13 kl u14 sl u15 el w1) := HB.out.grew HG1.out; clear HG1))
        refine bodyPost_ret (v := .tuple #[v1, u13, u14, u15]) (by simp [results, Try.results12, go_sem]) rfl ?_
        exact ⟨_, _, _, _, L, [c], E, K, rfl, HT.out, .inr ⟨c, rfl, HC.out⟩, by omega, by rw [← HE.out.1, ← HE.out.2.1, ← HE.out.2.2, ← HL1.out]; exact HB1.out⟩
      · have hq1 : nq = 0 := by omega
        subst hq1
        go_wp2_with fail
        refine bodyPost_ret (v := .tuple #[u12, u13, u14, u15]) (by simp [results, Try.results12, go_sem]) rfl ?_
        exact ⟨_, _, _, _, L, [], E, K, rfl, HT.out, .inl rfl, by omega, by rw [← HE.out.1, ← HE.out.2.1, ← HE.out.2.2, List.append_nil]; exact HB.out⟩
end Go.Proofs.Qxb6001736a
