/-
  THE LEAF: BreakWidth (10).
-/
import Derived.Test.Qxb6623328aRows
import Derived.Test.Qxb6623328aPlain
import Derived.WalkKit
import Derived.WalkSpells
namespace Go.Proofs.Qxb6623328a
open Go.RowKit
set_option linter.unusedVariables false

/-! ### BreakWidth, a walk a way -/
theorem bw_A (b off n c k : Nat) (w : World) (hk : k < n) (hn : n ≤ 1048576) (hx : w.cell? ⟨b, off + k, none⟩ = some (.int .u8 10)) :
    Calls Try.prog 10 #[.slice (some ⟨b, off, none⟩) n c, .int .i64 k] w fun e w' => e = .returned (.int .i64 1) ∧ w' = w := by
  go_enter Try.func10, Try.ntmps10
  go_wp2
  go_ret
  exact ⟨rfl, rfl⟩

theorem bw_B1 (b off n c k : Nat) (w : World) (hk : k < n) (hn : n ≤ 1048576) (hx : w.cell? ⟨b, off + k, none⟩ = some (.int .u8 13)) (h1 : k + 1 < n) (hy : w.cell? ⟨b, off + (k + 1), none⟩ = some (.int .u8 10)) :
    Calls Try.prog 10 #[.slice (some ⟨b, off, none⟩) n c, .int .i64 k] w fun e w' => e = .returned (.int .i64 2) ∧ w' = w := by
  go_enter Try.func10, Try.ntmps10
  go_wp2
  go_ret
  exact ⟨rfl, rfl⟩

theorem bw_B2 (b off n c k : Nat) (w : World) (hk : k < n) (hn : n ≤ 1048576) (y : Int) (hx : w.cell? ⟨b, off + k, none⟩ = some (.int .u8 13)) (h1 : k + 1 < n) (hy : w.cell? ⟨b, off + (k + 1), none⟩ = some (.int .u8 y)) (h2 : (y == 10) = false) :
    Calls Try.prog 10 #[.slice (some ⟨b, off, none⟩) n c, .int .i64 k] w fun e w' => e = .returned (.int .i64 1) ∧ w' = w := by
  go_enter Try.func10, Try.ntmps10
  go_wp2
  go_ret
  exact ⟨rfl, rfl⟩

theorem bw_B3 (b off n c k : Nat) (w : World) (hk : k < n) (hn : n ≤ 1048576) (hx : w.cell? ⟨b, off + k, none⟩ = some (.int .u8 13)) (h1 : n ≤ k + 1) :
    Calls Try.prog 10 #[.slice (some ⟨b, off, none⟩) n c, .int .i64 k] w fun e w' => e = .returned (.int .i64 1) ∧ w' = w := by
  go_enter Try.func10, Try.ntmps10
  go_wp2
  go_ret
  exact ⟨rfl, rfl⟩

theorem bw_C1 (b off n c k : Nat) (w : World) (hk : k < n) (hn : n ≤ 1048576) (hx : w.cell? ⟨b, off + k, none⟩ = some (.int .u8 194)) (h1 : k + 1 < n) (hy : w.cell? ⟨b, off + (k + 1), none⟩ = some (.int .u8 133)) :
    Calls Try.prog 10 #[.slice (some ⟨b, off, none⟩) n c, .int .i64 k] w fun e w' => e = .returned (.int .i64 2) ∧ w' = w := by
  go_enter Try.func10, Try.ntmps10
  go_wp2
  go_ret
  exact ⟨rfl, rfl⟩

theorem bw_C2 (b off n c k : Nat) (w : World) (hk : k < n) (hn : n ≤ 1048576) (y : Int) (hx : w.cell? ⟨b, off + k, none⟩ = some (.int .u8 194)) (h1 : k + 1 < n) (hy : w.cell? ⟨b, off + (k + 1), none⟩ = some (.int .u8 y)) (h2 : (y == 133) = false) :
    Calls Try.prog 10 #[.slice (some ⟨b, off, none⟩) n c, .int .i64 k] w fun e w' => e = .returned (.int .i64 0) ∧ w' = w := by
  go_enter Try.func10, Try.ntmps10
  go_wp2
  go_ret
  exact ⟨rfl, rfl⟩

theorem bw_C3 (b off n c k : Nat) (w : World) (hk : k < n) (hn : n ≤ 1048576) (hx : w.cell? ⟨b, off + k, none⟩ = some (.int .u8 194)) (h1 : n ≤ k + 1) :
    Calls Try.prog 10 #[.slice (some ⟨b, off, none⟩) n c, .int .i64 k] w fun e w' => e = .returned (.int .i64 0) ∧ w' = w := by
  go_enter Try.func10, Try.ntmps10
  go_wp2
  go_ret
  exact ⟨rfl, rfl⟩

theorem bw_D1 (b off n c k : Nat) (w : World) (hk : k < n) (hn : n ≤ 1048576) (hx : w.cell? ⟨b, off + k, none⟩ = some (.int .u8 226)) (h1 : k + 2 < n) (hy : w.cell? ⟨b, off + (k + 1), none⟩ = some (.int .u8 128)) (hz : w.cell? ⟨b, off + (k + 2), none⟩ = some (.int .u8 168)) :
    Calls Try.prog 10 #[.slice (some ⟨b, off, none⟩) n c, .int .i64 k] w fun e w' => e = .returned (.int .i64 3) ∧ w' = w := by
  go_enter Try.func10, Try.ntmps10
  go_wp2
  go_ret
  exact ⟨rfl, rfl⟩

theorem bw_D2 (b off n c k : Nat) (w : World) (hk : k < n) (hn : n ≤ 1048576) (hx : w.cell? ⟨b, off + k, none⟩ = some (.int .u8 226)) (h1 : k + 2 < n) (hy : w.cell? ⟨b, off + (k + 1), none⟩ = some (.int .u8 128)) (hz : w.cell? ⟨b, off + (k + 2), none⟩ = some (.int .u8 169)) :
    Calls Try.prog 10 #[.slice (some ⟨b, off, none⟩) n c, .int .i64 k] w fun e w' => e = .returned (.int .i64 3) ∧ w' = w := by
  go_enter Try.func10, Try.ntmps10
  go_wp2
  go_ret
  exact ⟨rfl, rfl⟩

theorem bw_D3 (b off n c k : Nat) (w : World) (hk : k < n) (hn : n ≤ 1048576) (z : Int) (hx : w.cell? ⟨b, off + k, none⟩ = some (.int .u8 226)) (h1 : k + 2 < n) (hy : w.cell? ⟨b, off + (k + 1), none⟩ = some (.int .u8 128)) (hz : w.cell? ⟨b, off + (k + 2), none⟩ = some (.int .u8 z)) (h2 : (z == 168) = false) (h3 : (z == 169) = false) :
    Calls Try.prog 10 #[.slice (some ⟨b, off, none⟩) n c, .int .i64 k] w fun e w' => e = .returned (.int .i64 0) ∧ w' = w := by
  go_enter Try.func10, Try.ntmps10
  go_wp2
  go_ret
  exact ⟨rfl, rfl⟩

theorem bw_D4 (b off n c k : Nat) (w : World) (hk : k < n) (hn : n ≤ 1048576) (y : Int) (hx : w.cell? ⟨b, off + k, none⟩ = some (.int .u8 226)) (h1 : k + 2 < n) (hy : w.cell? ⟨b, off + (k + 1), none⟩ = some (.int .u8 y)) (h2 : (y == 128) = false) :
    Calls Try.prog 10 #[.slice (some ⟨b, off, none⟩) n c, .int .i64 k] w fun e w' => e = .returned (.int .i64 0) ∧ w' = w := by
  go_enter Try.func10, Try.ntmps10
  go_wp2
  go_ret
  exact ⟨rfl, rfl⟩

theorem bw_D5 (b off n c k : Nat) (w : World) (hk : k < n) (hn : n ≤ 1048576) (hx : w.cell? ⟨b, off + k, none⟩ = some (.int .u8 226)) (h1 : n ≤ k + 2) :
    Calls Try.prog 10 #[.slice (some ⟨b, off, none⟩) n c, .int .i64 k] w fun e w' => e = .returned (.int .i64 0) ∧ w' = w := by
  go_enter Try.func10, Try.ntmps10
  go_wp2
  go_ret
  exact ⟨rfl, rfl⟩

theorem bw_E (b off n c k : Nat) (w : World) (hk : k < n) (hn : n ≤ 1048576) (x : Int) (hx : w.cell? ⟨b, off + k, none⟩ = some (.int .u8 x)) (h1 : (x == 10) = false) (h2 : (x == 13) = false) (h3 : (x == 194) = false) (h4 : (x == 226) = false) :
    Calls Try.prog 10 #[.slice (some ⟨b, off, none⟩) n c, .int .i64 k] w fun e w' => e = .returned (.int .i64 0) ∧ w' = w := by
  go_enter Try.func10, Try.ntmps10
  go_wp2
  go_ret
  exact ⟨rfl, rfl⟩

/-- BreakWidth, of every text. -/
theorem bw_any (b off n c k : Nat) (w : World) (zs : List Int) (hl : zs.length = n) (hk : k < n) (hn : n ≤ 1048576)
    (hc : ∀ j, j < n → w.cell? ⟨b, off + j, none⟩ = some (.int .u8 (zs.getD j 0))) :
    Calls Try.prog 10 #[.slice (some ⟨b, off, none⟩) n c, .int .i64 k] w fun e w' => e = .returned (.int .i64 (bw zs k)) ∧ w' = w := by
  have hx := hc k hk
  unfold bw
  rw [hl]
  by_cases x10 : zs.getD k 0 = 10
  · rw [if_pos x10]; rw [x10] at hx; exact bw_A b off n c k w hk hn hx
  rw [if_neg x10]
  by_cases x13 : zs.getD k 0 = 13
  · rw [x13] at hx
    by_cases h1 : k + 1 < n
    · have hy := hc (k + 1) h1
      by_cases y10 : zs.getD (k + 1) 0 = 10
      · rw [if_pos ⟨x13, h1, y10⟩]; rw [y10] at hy; exact bw_B1 b off n c k w hk hn hx h1 hy
      · rw [if_neg (fun h => y10 h.2.2), if_pos x13]; exact bw_B2 b off n c k w hk hn _ hx h1 hy (by simpa using y10)
    · rw [if_neg (fun h => h1 h.2.1), if_pos x13]; exact bw_B3 b off n c k w hk hn hx (by omega)
  rw [if_neg (fun h => x13 h.1), if_neg x13]
  by_cases x194 : zs.getD k 0 = 194
  · rw [x194] at hx
    by_cases h1 : k + 1 < n
    · have hy := hc (k + 1) h1
      by_cases y : zs.getD (k + 1) 0 = 133
      · rw [if_pos ⟨x194, h1, y⟩]; rw [y] at hy; exact bw_C1 b off n c k w hk hn hx h1 hy
      · rw [if_neg (fun h => y h.2.2), if_neg (fun h => by have := h.1; omega)]; exact bw_C2 b off n c k w hk hn _ hx h1 hy (by simpa using y)
    · rw [if_neg (fun h => h1 h.2.1), if_neg (fun h => by have := h.1; omega)]; exact bw_C3 b off n c k w hk hn hx (by omega)
  rw [if_neg (fun h => x194 h.1)]
  by_cases x226 : zs.getD k 0 = 226
  · rw [x226] at hx
    by_cases h1 : k + 2 < n
    · have hy := hc (k + 1) (by omega)
      have hz := hc (k + 2) h1
      by_cases y : zs.getD (k + 1) 0 = 128
      · rw [y] at hy
        by_cases z1 : zs.getD (k + 2) 0 = 168
        · rw [if_pos ⟨x226, h1, y, .inl z1⟩]; rw [z1] at hz; exact bw_D1 b off n c k w hk hn hx h1 hy hz
        by_cases z2 : zs.getD (k + 2) 0 = 169
        · rw [if_pos ⟨x226, h1, y, .inr z2⟩]; rw [z2] at hz; exact bw_D2 b off n c k w hk hn hx h1 hy hz
        rw [if_neg (fun h => h.2.2.2.elim z1 z2)]; exact bw_D3 b off n c k w hk hn _ hx h1 hy hz (by simpa using z1) (by simpa using z2)
      · rw [if_neg (fun h => y h.2.2.1)]; exact bw_D4 b off n c k w hk hn _ hx h1 hy (by simpa using y)
    · rw [if_neg (fun h => h1 h.2.1)]; exact bw_D5 b off n c k w hk hn hx (by omega)
  rw [if_neg (fun h => x226 h.1)]
  exact bw_E b off n c k w hk hn _ hx (by simpa using x10) (by simpa using x13) (by simpa using x194) (by simpa using x226)

end Go.Proofs.Qxb6623328a
