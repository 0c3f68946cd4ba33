/-
  THE LAW's WALK (3).
-/
import Derived.Test.Qxb6623328aWhole
import Derived.Deep.QuietTactic
import Derived.BigQuiet
namespace Go.Proofs.Qxb6623328a
open Go.RowKit
set_option linter.unusedVariables false

/-- The two lists that are held against each other. -/
structure Both (L g3 g8 : Nat) (xs : List ByteArray) (B : Nat) (w wr : World) : Prop where
  got : ∀ j, j < L → wr.cell? ⟨g3, j, none⟩ = some (.string (xs.getD j ByteArray.empty))
  want : ∀ j, j < L → wr.cell? ⟨g8, j, none⟩ = some (.string (xs.getD j ByteArray.empty))
  below : Below B w wr

theorem Both.drew {L g3 g8 : Nat} {xs : List ByteArray} {B : Nat} {w wr : World} (h : Both L g3 g8 xs B w wr) (n : Nat) : Both L g3 g8 xs B w (wr.drewN n) :=
  ⟨h.got, h.want, h.below.trans ⟨rfl, rfl, rfl, Nat.le_refl _, fun _ _ => rfl⟩⟩

theorem List9.some {v : Value} {L : Nat} {xs : List ByteArray} {w : World} (h : List9 v L xs w) (hL : 0 < L) : ∃ g cap, v = .slice (some ⟨g, 0, none⟩) L cap ∧ ∀ j, j < L → w.cell? ⟨g, j, none⟩ = some (.string (xs.getD j ByteArray.empty)) := by
  obtain ⟨ao, cap, rfl, hp⟩ := h
  obtain ⟨g, rfl, hc⟩ := hp hL
  exact ⟨g, cap, rfl, hc⟩

theorem List9.any {v : Value} {L : Nat} {xs : List ByteArray} {w : World} (h : List9 v L xs w) : ∃ ao cap, v = .slice ao L cap := by
  obtain ⟨ao, cap, rfl, _⟩ := h
  exact ⟨ao, cap, rfl⟩

set_option maxHeartbeats 4000000 in
theorem law_Z0 (ta ad : Option Addr) (n tc c L : Nat) (frm to : Int) (zs : List Int) (ss : List ByteArray) (w : World) (hn0 : n ≤ maxLen) (hl : zs.length = n) (hls : ss.length = 0) (hLL : L = 0 + (G zs to.toNat frm.toNat).length) (hL0 : L = 0)
    (hB0 : ArgB ta n tc zs w) (hS0 : ArgS ad 0 c ss w) :
    Calls Try.prog 3 #[.slice ta n tc, .slice ad 0 c, .int .i64 frm, .int .i64 to] w fun e w' => e = .returned (.bool true) ∧ Below w.heap.size w w' := by
  have HL := hid hl
  have HLS := hid hls
  have HLL := hid hLL
  have hB := hid hB0
  have hS := hid hS0
  have hz := zzb_any ta ad n tc 0 c frm to ss w hn0 (Nat.zero_le _) (fun h => absurd h (by omega))
  have HZ := hid hz
  clear hl hls hLL hB0 hS0 hz
  have hL00 : (L : Int) ≤ 0 := by omega
  clear hL0
  go_enter Try.func3, Try.ntmps3
  go_wp2_with fail
  refine HZ.out.mono ?_
  rintro e w' ⟨bv, rfl, rfl, hbv⟩
  cases bv
  · go_wp2
    go_ret
    exact ⟨rfl, Below.refl _ _⟩
  obtain ⟨hn, hm⟩ := hbv rfl
  clear hbv
  go_wp2
  refine wp_loop_rounds 1 ?_
  rw [rounds_succ]
  by_cases hf : frm < 0
  · go_wp2
    go_ret
    exact ⟨rfl, Below.refl _ _⟩
  by_cases ht : (n : Int) < to
  · go_wp2
    go_ret
    exact ⟨rfl, Below.refl _ _⟩
  have hf0 : 0 ≤ frm := by omega
  have ht0 : to ≤ n := by omega
  have hLb : L ≤ 2097152 := by have := G_len zs to.toNat frm.toNat (by have := HL.out; omega); have := HLL.out; omega
  go_wp2_with fail
  refine (copyB_all hB.out HL.out hn).mono ?_
  rintro e w1 ⟨ta1, tc1, rfl, hT1, hb1⟩
  go_wp2_with fail
  refine (copyS_all (hS.out.below hb1) HLS.out hm).mono ?_
  rintro e w2 ⟨v2, rfl, hO2, hb2⟩
  go_wp2_with fail
  refine (app_all (hT1.below hb2 (Nat.le_refl _)) HL.out hn hf0 ht0 hm HLS.out hO2 hb2.size).mono ?_
  rintro e w3 ⟨v3, rfl, hO3, hb3⟩
  rw [← HLL.out] at hO3
  obtain ⟨ao3, cap3, hv3⟩ := (List9.of hO3).any
  rw [hv3]
  have hW3 : Below w.heap.size w w3 := (hb1.trans (hb2.mono hb1.size)).trans (hb3.mono hb1.size)
  have H3 := hid (And.intro hv3 hO3)
  clear hv3 hO3
  go_wp2_with fail
  refine (copyS_all (hS.out.below hW3) HLS.out hm).mono ?_
  rintro e w4 ⟨v4, rfl, hO4, hb4⟩
  go_wp2_with fail
  refine (copyB_all (hB.out.below (hW3.trans (hb4.mono hW3.size))) HL.out hn).mono ?_
  rintro e w5 ⟨ta5, tc5, rfl, hT5, hb5⟩
  go_wp2_with fail
  refine (line_all hT5 HL.out hn hf0 ht0 hm HLS.out (ownsRow_below hO4 hb5 (Nat.le_refl _)) (Nat.le_trans hb4.size hb5.size)).mono ?_
  rintro e w6 ⟨v6, rfl, hO6, hb6⟩
  rw [← HLL.out] at hO6
  obtain ⟨ao6, cap6, hv6⟩ := (List9.of hO6).any
  rw [hv6]
  have hb36 : Below w3.heap.size w3 w6 := (hb4.trans (hb5.mono hb4.size)).trans hb6
  have hW6 : Below w.heap.size w w6 := hW3.trans (hb36.mono hW3.size)
  clear hv6 hO6 hO4 hT5 hO2 hT1
  go_wp2_with fail
  refine wp_loop_rounds 1 ?_
  rw [rounds_succ]
  go_wp2
  go_ret
  exact ⟨rfl, hW6⟩

set_option maxHeartbeats 4000000 in
theorem law_Z1 (ta ad : Option Addr) (n tc c L : Nat) (frm to : Int) (zs : List Int) (ss : List ByteArray) (w : World) (hn0 : n ≤ maxLen) (hl : zs.length = n) (hls : ss.length = 0) (hLL : L = 0 + (G zs to.toNat frm.toNat).length) (hLp : 0 < L)
    (hB0 : ArgB ta n tc zs w) (hS0 : ArgS ad 0 c ss w) :
    Calls Try.prog 3 #[.slice ta n tc, .slice ad 0 c, .int .i64 frm, .int .i64 to] w fun e w' => e = .returned (.bool true) ∧ Below w.heap.size w w' := by
  have HL := hid hl
  have HLS := hid hls
  have HLL := hid hLL
  have hB := hid hB0
  have hS := hid hS0
  have hz := zzb_any ta ad n tc 0 c frm to ss w hn0 (Nat.zero_le _) (fun h => absurd h (by omega))
  have HZ := hid hz
  clear hl hls hLL hB0 hS0 hz
  go_enter Try.func3, Try.ntmps3
  go_wp2_with fail
  refine HZ.out.mono ?_
  rintro e w' ⟨bv, rfl, rfl, hbv⟩
  cases bv
  · go_wp2
    go_ret
    exact ⟨rfl, Below.refl _ _⟩
  obtain ⟨hn, hm⟩ := hbv rfl
  clear hbv
  go_wp2
  refine wp_loop_rounds 1 ?_
  rw [rounds_succ]
  by_cases hf : frm < 0
  · go_wp2
    go_ret
    exact ⟨rfl, Below.refl _ _⟩
  by_cases ht : (n : Int) < to
  · go_wp2
    go_ret
    exact ⟨rfl, Below.refl _ _⟩
  have hf0 : 0 ≤ frm := by omega
  have ht0 : to ≤ n := by omega
  have hLb : L ≤ 2097152 := by have := G_len zs to.toNat frm.toNat (by have := HL.out; omega); have := HLL.out; omega
  go_wp2_with fail
  refine (copyB_all hB.out HL.out hn).mono ?_
  rintro e w1 ⟨ta1, tc1, rfl, hT1, hb1⟩
  go_wp2_with fail
  refine (copyS_all (hS.out.below hb1) HLS.out hm).mono ?_
  rintro e w2 ⟨v2, rfl, hO2, hb2⟩
  go_wp2_with fail
  refine (app_all (hT1.below hb2 (Nat.le_refl _)) HL.out hn hf0 ht0 hm HLS.out hO2 hb2.size).mono ?_
  rintro e w3 ⟨v3, rfl, hO3, hb3⟩
  rw [← HLL.out] at hO3
  obtain ⟨g3, cap3, hv3, hc3⟩ := (List9.of hO3).some hLp
  rw [hv3]
  have hW3 : Below w.heap.size w w3 := (hb1.trans (hb2.mono hb1.size)).trans (hb3.mono hb1.size)
  have H3 := hid (And.intro hv3 hO3)
  have HC3 := hid hc3
  clear hv3 hO3 hc3
  go_wp2_with fail
  refine (copyS_all (hS.out.below hW3) HLS.out hm).mono ?_
  rintro e w4 ⟨v4, rfl, hO4, hb4⟩
  go_wp2_with fail
  refine (copyB_all (hB.out.below (hW3.trans (hb4.mono hW3.size))) HL.out hn).mono ?_
  rintro e w5 ⟨ta5, tc5, rfl, hT5, hb5⟩
  go_wp2_with fail
  refine (line_all hT5 HL.out hn hf0 ht0 hm HLS.out (ownsRow_below hO4 hb5 (Nat.le_refl _)) (Nat.le_trans hb4.size hb5.size)).mono ?_
  rintro e w6 ⟨v6, rfl, hO6, hb6⟩
  rw [← HLL.out] at hO6
  obtain ⟨g6, cap6, hv6, hc6⟩ := (List9.of hO6).some hLp
  rw [hv6]
  have hb36 : Below w3.heap.size w3 w6 := (hb4.trans (hb5.mono hb4.size)).trans hb6
  have hW6 : Below w.heap.size w w6 := hW3.trans (hb36.mono hW3.size)
  have hBoth : Both L g3 g6 (ss ++ G zs to.toNat frm.toNat) w.heap.size w w6 := ⟨fun j hj => (hb36.cell (World.block_lt_of_cell? w3 _ (HC3.out j hj))).trans (HC3.out j hj), hc6, hW6⟩
  clear hv6 hO6 hc6 hO4 hT5 hO2 hT1
  go_wp2_with fail
  go_loopw [15] (fun i wr => ∃ k : Nat, k ≤ L ∧ i = .int .i64 k ∧ Both L g3 g6 (ss ++ G zs to.toNat frm.toNat) w.heap.size w wr) (fun i _ => L - (intOf i).toNat)
  case atStart => exact ⟨0, Nat.zero_le _, rfl, hBoth⟩
  case round =>
    obtain ⟨k, hk, rfl, hBr⟩ := hrel
    by_cases hlt : k < L
    · have c3 := hBr.got k hlt
      have c6 := hBr.want k hlt
      obtain ⟨s, hs⟩ : ∃ s, s = (ss ++ G zs to.toNat frm.toNat).getD k ByteArray.empty := ⟨_, rfl⟩
      rw [← hs] at c3 c6
      clear hs
      have hk0 : (0 : Int) ≤ (k : Int) := by omega
      have hkL : (k : Int) < (L : Int) := by omega
      go_wp2
      go_quiet (fail)
      go_wp2
      go_roundw
      case rel => exact ⟨k + 1, by omega, by go_num, hBr.drew _⟩
      case measure => simp [intOf]; omega
    · go_wp2
      go_ret
      exact ⟨rfl, hBr.below⟩

set_option maxHeartbeats 4000000 in
theorem law_P (ta : Option Addr) (b off n tc m c L : Nat) (frm to : Int) (zs : List Int) (ss : List ByteArray) (w : World) (hn0 : n ≤ maxLen) (hm0 : m ≤ maxLen) (hmp : 0 < m) (hl : zs.length = n) (hls : ss.length = m) (hLL : L = m + (G zs to.toNat frm.toNat).length) (hc0 : ∀ j, j < m → w.cell? ⟨b, off + j, none⟩ = some (.string (ss.getD j ByteArray.empty))) (hLp : 0 < L)
    (hB0 : ArgB ta n tc zs w) (hS0 : ArgS (some ⟨b, off, none⟩) m c ss w) :
    Calls Try.prog 3 #[.slice ta n tc, .slice (some ⟨b, off, none⟩) m c, .int .i64 frm, .int .i64 to] w fun e w' => e = .returned (.bool true) ∧ Below w.heap.size w w' := by
  have HL := hid hl
  have HLS := hid hls
  have HLL := hid hLL
  have hB := hid hB0
  have hS := hid hS0
  have hz := zzb_any ta (some ⟨b, off, none⟩) n tc m c frm to ss w hn0 hm0 (fun _ => ⟨b, off, rfl, hc0⟩)
  have HC0 := hid hc0
  clear hc0
  have HZ := hid hz
  clear hl hls hLL hB0 hS0 hz
  go_enter Try.func3, Try.ntmps3
  go_wp2_with fail
  refine HZ.out.mono ?_
  rintro e w' ⟨bv, rfl, rfl, hbv⟩
  cases bv
  · go_wp2
    go_ret
    exact ⟨rfl, Below.refl _ _⟩
  obtain ⟨hn, hm⟩ := hbv rfl
  clear hbv
  go_wp2
  go_loop [9, 10] (fun z i => ∃ t k : Nat, t ≤ 1048576 ∧ k ≤ m ∧ z = .int .i64 t ∧ i = .int .i64 k) (fun _ i => m - (intOf i).toNat)
  case atStart => exact ⟨0, 0, by omega, by omega, rfl, rfl⟩
  case round =>
    obtain ⟨t, k, htt, hk, rfl, rfl⟩ := hrel
    by_cases hlt : k < m
    · have cS := HC0.out k hlt
      obtain ⟨s, hs⟩ : ∃ s, s = ss.getD k ByteArray.empty := ⟨_, rfl⟩
      rw [← hs] at cS
      clear hs
      by_cases h1 : s.size ≤ 1048576
      · by_cases h2 : t + (16 + s.size) ≤ 1048576
        · go_wp2
          go_round
          case rel => exact ⟨t + (16 + s.size), k + 1, by omega, by omega, by go_num, by go_num⟩
          case measure => simp [intOf]; omega
        · go_wp2
          go_ret
          exact ⟨rfl, Below.refl _ _⟩
      · go_wp2
        go_ret
        exact ⟨rfl, Below.refl _ _⟩
    · by_cases hf : frm < 0
      · go_wp2
        go_ret
        exact ⟨rfl, Below.refl _ _⟩
      by_cases ht : (n : Int) < to
      · go_wp2
        go_ret
        exact ⟨rfl, Below.refl _ _⟩
      have hf0 : 0 ≤ frm := by omega
      have ht0 : to ≤ n := by omega
      have hLb : L ≤ 2097152 := by have := G_len zs to.toNat frm.toNat (by have := HL.out; omega); have := HLL.out; omega
      go_wp2_with fail
      refine (copyB_all hB.out HL.out hn).mono ?_
      rintro e w1 ⟨ta1, tc1, rfl, hT1, hb1⟩
      go_wp2_with fail
      refine (copyS_all (hS.out.below hb1) HLS.out hm).mono ?_
      rintro e w2 ⟨v2, rfl, hO2, hb2⟩
      go_wp2_with fail
      refine (app_all (hT1.below hb2 (Nat.le_refl _)) HL.out hn hf0 ht0 hm HLS.out hO2 hb2.size).mono ?_
      rintro e w3 ⟨v3, rfl, hO3, hb3⟩
      rw [← HLL.out] at hO3
      obtain ⟨g3, cap3, hv3, hc3⟩ := (List9.of hO3).some hLp
      rw [hv3]
      have hW3 : Below w.heap.size w w3 := (hb1.trans (hb2.mono hb1.size)).trans (hb3.mono hb1.size)
      have H3 := hid (And.intro hv3 hO3)
      have HC3 := hid hc3
      clear hv3 hO3 hc3
      go_wp2_with fail
      refine (copyS_all (hS.out.below hW3) HLS.out hm).mono ?_
      rintro e w4 ⟨v4, rfl, hO4, hb4⟩
      go_wp2_with fail
      refine (copyB_all (hB.out.below (hW3.trans (hb4.mono hW3.size))) HL.out hn).mono ?_
      rintro e w5 ⟨ta5, tc5, rfl, hT5, hb5⟩
      go_wp2_with fail
      refine (line_all hT5 HL.out hn hf0 ht0 hm HLS.out (ownsRow_below hO4 hb5 (Nat.le_refl _)) (Nat.le_trans hb4.size hb5.size)).mono ?_
      rintro e w6 ⟨v6, rfl, hO6, hb6⟩
      rw [← HLL.out] at hO6
      obtain ⟨g6, cap6, hv6, hc6⟩ := (List9.of hO6).some hLp
      rw [hv6]
      have hb36 : Below w3.heap.size w3 w6 := (hb4.trans (hb5.mono hb4.size)).trans hb6
      have hW6 : Below w.heap.size w w6 := hW3.trans (hb36.mono hW3.size)
      have hBoth : Both L g3 g6 (ss ++ G zs to.toNat frm.toNat) w.heap.size w w6 := ⟨fun j hj => (hb36.cell (World.block_lt_of_cell? w3 _ (HC3.out j hj))).trans (HC3.out j hj), hc6, hW6⟩
      clear hv6 hO6 hc6 hO4 hT5 hO2 hT1
      go_wp2_with fail
      go_loopw [15] (fun i wr => ∃ k : Nat, k ≤ L ∧ i = .int .i64 k ∧ Both L g3 g6 (ss ++ G zs to.toNat frm.toNat) w.heap.size w wr) (fun i _ => L - (intOf i).toNat)
      case atStart => exact ⟨0, Nat.zero_le _, rfl, hBoth⟩
      case round =>
        obtain ⟨k, hk, rfl, hBr⟩ := hrel
        by_cases hlt : k < L
        · have c3 := hBr.got k hlt
          have c6 := hBr.want k hlt
          obtain ⟨s, hs⟩ : ∃ s, s = (ss ++ G zs to.toNat frm.toNat).getD k ByteArray.empty := ⟨_, rfl⟩
          rw [← hs] at c3 c6
          clear hs
          have hk0 : (0 : Int) ≤ (k : Int) := by omega
          have hkL : (k : Int) < (L : Int) := by omega
          go_wp2
          go_quiet (fail)
          go_wp2
          go_roundw
          case rel => exact ⟨k + 1, by omega, by go_num, hBr.drew _⟩
          case measure => simp [intOf]; omega
        · go_wp2
          go_ret
          exact ⟨rfl, hBr.below⟩

end Go.Proofs.Qxb6623328a
