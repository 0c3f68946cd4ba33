/-
  zzBytes_FnAppendCommentsLineWise (4): it answers, and where it says true both lengths are at most 2^20.
-/
import Derived.Test.Qxb6623328aParts
namespace Go.Proofs.Qxb6623328a
open Go.RowKit
set_option linter.unusedVariables false

theorem zzb_bigT (ta ad : Option Addr) (n tc m c : Nat) (frm to : Int) (w : World) (h : 1048576 < n) (hn : n ≤ 9223372036854775807) :
    Calls Try.prog 4 #[.slice ta n tc, .slice ad m c, .int .i64 frm, .int .i64 to] w fun e w' => e = .returned (.bool false) ∧ w' = w := by
  go_enter Try.func4, Try.ntmps4
  go_wp2
  go_ret
  exact ⟨rfl, rfl⟩

theorem zzb_bigC (ta ad : Option Addr) (n tc m c : Nat) (frm to : Int) (w : World) (h : n ≤ 1048576) (hm : 1048576 < m) (hn : m ≤ 9223372036854775807) :
    Calls Try.prog 4 #[.slice ta n tc, .slice ad m c, .int .i64 frm, .int .i64 to] w fun e w' => e = .returned (.bool false) ∧ w' = w := by
  go_enter Try.func4, Try.ntmps4
  go_wp2
  go_ret
  exact ⟨rfl, rfl⟩

theorem zzb_bigS (ta ad : Option Addr) (n tc m c : Nat) (frm to : Int) (w : World) (h : n ≤ 1048576) (hm : m ≤ 1048576) (hnm : 1048576 < n + m) :
    Calls Try.prog 4 #[.slice ta n tc, .slice ad m c, .int .i64 frm, .int .i64 to] w fun e w' => e = .returned (.bool false) ∧ w' = w := by
  go_enter Try.func4, Try.ntmps4
  go_wp2
  go_ret
  exact ⟨rfl, rfl⟩

theorem zzb_none (ta ad : Option Addr) (n tc c : Nat) (frm to : Int) (w : World) (h : n ≤ 1048576) :
    Calls Try.prog 4 #[.slice ta n tc, .slice ad 0 c, .int .i64 frm, .int .i64 to] w fun e w' => e = .returned (.bool true) ∧ w' = w := by
  go_enter Try.func4, Try.ntmps4
  go_wp2
  refine wp_loop_rounds 1 ?_
  rw [rounds_succ]
  go_wp2
  go_ret
  exact ⟨rfl, rfl⟩

theorem zzb_some (ta : Option Addr) (b off n tc m c : Nat) (frm to : Int) (ss : List ByteArray) (w : World) (h : n ≤ 1048576) (hm : m ≤ 1048576) (hnm : n + m ≤ 1048576) (hc : ∀ j, j < m → w.cell? ⟨b, off + j, none⟩ = some (.string (ss.getD j ByteArray.empty))) :
    Calls Try.prog 4 #[.slice ta n tc, .slice (some ⟨b, off, none⟩) m c, .int .i64 frm, .int .i64 to] w fun e w' => (e = .returned (.bool false) ∨ e = .returned (.bool true)) ∧ w' = w := by
  have HC := hid hc
  clear hc
  go_enter Try.func4, Try.ntmps4
  go_wp2
  go_loop [9, 10] (fun z i => ∃ t k : Nat, t ≤ 1048576 ∧ k ≤ m ∧ z = .int .i64 t ∧ i = .int .i64 k) (fun _ i => m - (intOf i).toNat)
  case atStart => exact ⟨n + m, 0, by omega, by omega, by go_num, rfl⟩
  case round =>
    obtain ⟨t, k, ht, hk, rfl, rfl⟩ := hrel
    by_cases hlt : k < m
    · have cS := HC.out k hlt
      obtain ⟨s, hs⟩ : ∃ s, s = ss.getD k ByteArray.empty := ⟨_, rfl⟩
      rw [← hs] at cS
      clear hs
      by_cases h1 : s.size ≤ 1048576
      · by_cases h2 : t + s.size ≤ 1048576
        · go_wp2
          go_round
          case rel => exact ⟨t + s.size, k + 1, by omega, by omega, by go_num, by go_num⟩
          case measure => simp [intOf]; omega
        · go_wp2
          go_ret
          exact ⟨.inl rfl, rfl⟩
      · go_wp2
        go_ret
        exact ⟨.inl rfl, rfl⟩
    · go_wp2
      go_ret
      exact ⟨.inr rfl, rfl⟩

/-- Of every input: it answers; where it says true both lengths are at most 2^20. -/
theorem zzb_any (ta : Option Addr) (ad : Option Addr) (n tc m c : Nat) (frm to : Int) (ss : List ByteArray) (w : World) (hn : n ≤ maxLen) (hm : m ≤ maxLen) (had : 0 < m → ∃ b off, ad = some ⟨b, off, none⟩ ∧ ∀ j, j < m → w.cell? ⟨b, off + j, none⟩ = some (.string (ss.getD j ByteArray.empty))) :
    Calls Try.prog 4 #[.slice ta n tc, .slice ad m c, .int .i64 frm, .int .i64 to] w fun e w' => ∃ bv, e = .returned (.bool bv) ∧ w = w' ∧ (bv = true → n ≤ 1048576 ∧ m ≤ 1048576) := by
  unfold maxLen at hn hm
  by_cases h1 : n ≤ 1048576
  · by_cases h2 : m ≤ 1048576
    · by_cases h3 : n + m ≤ 1048576
      · by_cases h4 : m = 0
        · subst h4
          exact (zzb_none ta ad n tc c frm to w h1).mono fun e w' h => ⟨true, h.1, h.2.symm, fun _ => ⟨h1, h2⟩⟩
        · obtain ⟨b, off, rfl, hc⟩ := had (by omega)
          exact (zzb_some ta b off n tc m c frm to ss w h1 h2 h3 hc).mono fun e w' h => h.1.elim (fun he => ⟨false, he, h.2.symm, fun _ => ⟨h1, h2⟩⟩) (fun he => ⟨true, he, h.2.symm, fun _ => ⟨h1, h2⟩⟩)
      · exact (zzb_bigS ta ad n tc m c frm to w h1 h2 (by omega)).mono fun e w' h => ⟨false, h.1, h.2.symm, fun h => by cases h⟩
    · exact (zzb_bigC ta ad n tc m c frm to w h1 (by omega) (by omega)).mono fun e w' h => ⟨false, h.1, h.2.symm, fun h => by cases h⟩
  · exact (zzb_bigT ta ad n tc m c frm to w (by omega) (by omega)).mono fun e w' h => ⟨false, h.1, h.2.symm, fun h => by cases h⟩

end Go.Proofs.Qxb6623328a
