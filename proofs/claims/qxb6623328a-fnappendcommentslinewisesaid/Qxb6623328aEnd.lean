/-
  lineEnd (11).
-/
import Derived.Test.Qxb6623328aLeaf
namespace Go.Proofs.Qxb6623328a
open Go.RowKit
set_option linter.unusedVariables false

/-- The text's cells at the head of a block. -/
theorem cells0 {w : World} {b n : Nat} {zs : List Int} (hc : ∀ j, j < n → w.cell? ⟨b, j, none⟩ = some (.int .u8 (zs.getD j 0))) :
    ∀ j, j < n → w.cell? ⟨b, 0 + j, none⟩ = some (.int .u8 (zs.getD j 0)) := fun j hj => by rw [Nat.zero_add]; exact hc j hj

theorem ret_int {k : IntKind} {a b : Int} (h : a = b) : Ending.returned (.int k a) = .returned (.int k b) := by rw [h]

theorem lineEnd_any (sb b n c k : Nat) (w : World) (zs : List Int) (hl : zs.length = n) (hk : k ≤ n) (hn : n ≤ 1048576)
    (hs : w.cell? ⟨sb, 0, none⟩ = some (.slice (some ⟨b, 0, none⟩) n c))
    (hc : ∀ j, j < n → w.cell? ⟨b, j, none⟩ = some (.int .u8 (zs.getD j 0))) :
    Calls Try.prog 11 #[.pointer (some ⟨sb, 0, none⟩), .int .i64 k] w fun e w' => e = .returned (.int .i64 (lend zs k)) ∧ w' = w := by
  have HC : Hid (∀ j, j < n → w.cell? ⟨b, 0 + j, none⟩ = some (.int .u8 (zs.getD j 0))) := cells0 hc
  have HL : Hid (zs.length = n) := hl
  clear hc hl
  go_enter Try.func11, Try.ntmps11
  go_wp2
  go_loop [1] (fun i => ∃ j : Nat, k ≤ j ∧ j ≤ n ∧ i = .int .i64 j ∧ Hid (∀ m, k ≤ m → m < j → bw zs m = 0)) (fun i => n - (intOf i).toNat)
  case atStart => exact ⟨k, Nat.le_refl _, hk, rfl, fun m h1 h2 => by omega⟩
  case round =>
    obtain ⟨j, hkj, hjn, rfl, hno⟩ := hrel
    by_cases hlt : j < n
    · by_cases h0 : bw zs j = 0
      · go_wp2_with (go_at_call 10; refine (bw_any b 0 n c j w zs HL.out hlt hn HC.out).mono ?_; rintro e w' ⟨rfl, rfl⟩)
        go_round
        case rel =>
          refine ⟨j + 1, by omega, by omega, by go_num, fun m h1 h2 => ?_⟩
          rcases Nat.lt_or_ge m j with h | h
          · exact hno.out m h1 h
          · have : m = j := by omega
            subst this; exact h0
        case measure => simp [intOf]; omega
      · have hb : ((bw zs j : Int) == 0) = false := by simpa using h0
        have H0 : Hid (bw zs j ≠ 0) := h0
        clear h0
        go_wp2_with (go_at_call 10; refine (bw_any b 0 n c j w zs HL.out hlt hn HC.out).mono ?_; rintro e w' ⟨rfl, rfl⟩)
        go_ret
        exact ⟨ret_int (by rw [lend_of (⟨hkj, by have := HL.out; omega, hno.out, fun _ => H0.out⟩ : IsEnd zs k j)]), rfl⟩
    · go_wp2
      go_ret
      exact ⟨ret_int (by rw [lend_of (⟨hkj, by have := HL.out; omega, hno.out, fun h => by have := HL.out; omega⟩ : IsEnd zs k j)]), rfl⟩

end Go.Proofs.Qxb6623328a
