import Derived.Test.Qxb6001224aZCut
namespace Go.Proofs.Qxb6001224a
open Go.RowKit Go.ChangeShapes
set_option linter.unusedVariables false
set_option linter.unusedSimpArgs false

def TopPost (w : World) (e : Ending) (w' : World) : Prop := e = .returned (.bool true) ∧ Below w.heap.size w w'

theorem own_some {w : World} {base : Nat} {e : TypeId} {v : Value} {n : Nat} {f : Nat → Value} (h : w.ownsRow base e 1 v (n + 1) (rowV f (n + 1))) : ∃ g cap, v = .slice (some ⟨g, 0, none⟩) (n + 1) cap ∧ ∀ j, j < n + 1 → w.cell? ⟨g, j, none⟩ = some (f j) := by
  rcases h.2 with ⟨_, h0⟩ | ⟨g, cap, cur, rfl, _⟩
  · omega
  · refine ⟨g, cap, rfl, fun j hj => ?_⟩
    rw [h.cellAt j (by omega), rowV_at _ _ _ hj]

/-- A piece that is not the last. -/
theorem piece_size {t : ByteArray} {g : Nat} {p : Nat → Nat} {n j : Nat} (h : Cuts t.size g p n) (hj : j < n) : (t.extract (withCut p n t.size j) (withCut p n t.size (j + 1))).size = p (j + 1) - p j ∧ g ≤ p (j + 1) - p j ∧ 1 ≤ p (j + 1) - p j := by
  have h1 := h.gap j hj
  have h2 := (h.mono (j + 1) (by omega)).1
  have h3 := h.le
  rw [withCut_le _ _ _ _ (by omega), withCut_le _ _ _ _ (by omega)]
  refine ⟨?_, by omega, by omega⟩
  simp
  omega

theorem keeps_long (t : ByteArray) (parts least : Int) (w : World) (h1 : ¬ t.size ≤ 1048576) (h2 : t.size ≤ 9223372036854775807) : Calls Try.prog 4 #[.string t, .int .i64 parts, .int .i64 least] w (TopPost w) := by
  go_enter Try.func4, Try.ntmps4
  go_wp2
  go_ret
  exact ⟨rfl, Below.refl _ _⟩

set_option maxRecDepth 1000000 in
set_option maxHeartbeats 2000000 in
theorem keeps_many (t : ByteArray) (parts least : Int) (w : World) (ht : t.size ≤ 1048576) (hp : parts ≤ 9223372036854775807) (hl : least ≤ 9223372036854775807) (hp1 : 1 ≤ parts) (hfg : Hid (least ≤ sizeOf t parts least ∧ wrap64 ((t.size : Int) / parts) ≤ sizeOf t parts least)) :
    Calls Try.prog 4 #[.string t, .int .i64 parts, .int .i64 least] w (TopPost w) := by
  go_enter Try.func4, Try.ntmps4
  go_wp2_with (first
    | (go_at_call 14; go_in)
    | (go_at_call 12; refine (zcut_any t parts least _ ht hp hl).mono ?_))
  rintro e w1 ⟨n, p, va, vb, vc, B, rfl, hmany, hcuts, hB1, hta, htb, htc, hB⟩
  obtain ⟨ga, ca, rfl, hca⟩ := own_some hta
  obtain ⟨gb, cb, rfl, _⟩ := own_some htb
  obtain ⟨gc, cc, rfl, _⟩ := own_some htc
  have HCA : Hid (∀ j, j < n + 1 → w1.cell? ⟨ga, j, none⟩ = some (fText t (withCut p n t.size) j)) := hca
  have HB : Hid (Below w.heap.size w w1) := hB
  have HCU : Hid (Cuts t.size (sizeOf t parts least) p n) := hcuts
  have hn : (n : Int) + 1 ≤ parts := by omega
  have hnl : n ≤ t.size := by have := hcuts.mono n (Nat.le_refl _); have := hcuts.le; omega
  clear hmany hcuts hB1 hta htb htc hB hca
  go_wp2_with fail
  go_loopg [13] (n + 1) (fun gk i wr => ∃ j : Nat, j ≤ n ∧ gk = n + 1 - j ∧ i = .int .i64 j ∧ w1 = wr)
  case atStart => exact ⟨0, Nat.zero_le _, rfl, rfl, rfl⟩
  case round =>
    obtain ⟨j, hj, rfl, rfl, rfl⟩ := hrel
    by_cases hlt : j < n
    · have hc := HCA.out j (by omega)
      rw [fText] at hc
      have hps := piece_size HCU.out hlt
      have hg := hfg.out
      obtain ⟨X, hX⟩ : ∃ X, X = t.extract (withCut p n t.size j) (withCut p n t.size (j + 1)) := ⟨_, rfl⟩
      rw [← hX] at hc hps
      have hs1 : 1 ≤ X.size := by omega
      have hs2 : least ≤ X.size := by omega
      have hs3 : wrap64 ((t.size : Int) / parts) ≤ X.size := by omega
      have d1 : ((X.size : Int) == 0) = false := beq_eq_false_iff_ne.2 (by omega)
      have d2 : decide ((X.size : Int) < least) = false := decide_eq_false (by omega)
      have d3 : decide ((X.size : Int) < wrap64 ((t.size : Int) / parts)) = false := decide_eq_false (by omega)
      clear hX hps hg
      go_wp2_with fail
      go_roundg (n + 1 - (j + 1))
      case measure => omega
      case rel => exact ⟨j + 1, by omega, rfl, by go_num, rfl⟩
    · have e : j = n := by omega
      subst e
      go_wp2_with fail
      go_ret
      exact ⟨rfl, HB.out⟩

set_option maxRecDepth 1000000 in
set_option maxHeartbeats 2000000 in
theorem keeps_few (t : ByteArray) (parts least : Int) (w : World) (ht : t.size ≤ 1048576) (hl : least ≤ 9223372036854775807) (hp1 : parts < 1) :
    Calls Try.prog 4 #[.string t, .int .i64 parts, .int .i64 least] w (TopPost w) := by
  go_enter Try.func4, Try.ntmps4
  go_wp2_with (first
    | (go_at_call 14; go_in)
    | (go_at_call 12; refine (zcut_any t parts least _ ht (by omega) hl).mono ?_))
  rintro e w1 ⟨n, p, va, vb, vc, B, rfl, hmany, hcuts, hB1, hta, htb, htc, hB⟩
  obtain ⟨ga, ca, rfl, _⟩ := own_some hta
  obtain ⟨gb, cb, rfl, _⟩ := own_some htb
  obtain ⟨gc, cc, rfl, _⟩ := own_some htc
  have HB : Hid (Below w.heap.size w w1) := hB
  obtain rfl : n = 0 := by omega
  clear hmany hcuts hB1 hta htb htc hB
  go_wp2_with fail
  go_loopg [13] 0 (fun gk i wr => i = .int .i64 0 ∧ w1 = wr)
  case atStart => exact ⟨rfl, rfl⟩
  case round =>
    obtain ⟨rfl, rfl⟩ := hrel
    go_wp2_with fail
    go_ret
    exact ⟨rfl, HB.out⟩

theorem keeps_any (t : ByteArray) (parts least : Int) (w : World) (ht : t.size ≤ 9223372036854775807) (hp : parts ≤ 9223372036854775807) (hl : least ≤ 9223372036854775807) :
    Calls Try.prog 4 #[.string t, .int .i64 parts, .int .i64 least] w (TopPost w) := by
  by_cases h1 : t.size ≤ 1048576
  · by_cases h2 : 1 ≤ parts
    · have hq := quot_bd t.size parts h2
      refine keeps_many t parts least w h1 hp hl h2 ⟨?_, ?_⟩
      · unfold sizeOf; omega
      · rw [wrap_id _ hq.1 (by omega)]
        unfold sizeOf
        rw [show max parts 1 = parts by omega]
        omega
    · exact keeps_few t parts least w h1 hl (by omega)
  · exact keeps_long t parts least w h1 ht
end Go.Proofs.Qxb6001224a
