/-
  CompareEmptiness (5), zzLexCompareVercmpB1 (6), the bound on lengths (4): where one string is empty.
-/
import Derived.Test.Qxb6623422aRows
import Derived.WalkKit
import Derived.WalkSpells
namespace Go.Proofs.Qxb6623422a
open Go.RowKit
set_option linter.unusedVariables false

theorem cmp_00 (w : World) : Calls Try.prog 5 #[.string ⟨#[]⟩, .string ⟨#[]⟩] w fun e w' => e = .returned (.int .i64 0) ∧ w' = w := by
  go_enter Try.func5, Try.ntmps5
  go_wp2
  go_ret
  exact ⟨rfl, rfl⟩

theorem cmp_0b (b : ByteArray) (h1 : (([] : List UInt8) == b.toList) = false) (w : World) : Calls Try.prog 5 #[.string ⟨#[]⟩, .string b] w fun e w' => e = .returned (.int .i64 (-1)) ∧ w' = w := by
  go_enter Try.func5, Try.ntmps5
  go_wp2
  go_ret
  exact ⟨rfl, rfl⟩

theorem cmp_a0 (a : ByteArray) (h1 : (a.toList == ([] : List UInt8)) = false) (w : World) : Calls Try.prog 5 #[.string a, .string ⟨#[]⟩] w fun e w' => e = .returned (.int .i64 1) ∧ w' = w := by
  go_enter Try.func5, Try.ntmps5
  go_wp2
  go_ret
  exact ⟨rfl, rfl⟩

theorem lex_00 (w : World) : Calls Try.prog 6 #[.string ⟨#[]⟩, .string ⟨#[]⟩] w fun e w' => e = .returned (.int .i64 0) ∧ w' = w := by
  go_enter Try.func6, Try.ntmps6
  go_wp2
  refine wp_loop_rounds 1 ?_
  rw [rounds_succ]
  go_wp2
  go_ret
  exact ⟨rfl, rfl⟩

theorem lex_0b (b : ByteArray) (h1 : 0 < b.size) (h2 : b.size ≤ 1048576) (w : World) : Calls Try.prog 6 #[.string ⟨#[]⟩, .string b] w fun e w' => e = .returned (.int .i64 (-1)) ∧ w' = w := by
  go_enter Try.func6, Try.ntmps6
  go_wp2
  refine wp_loop_rounds 1 ?_
  rw [rounds_succ]
  go_wp2
  go_ret
  exact ⟨rfl, rfl⟩

theorem lex_a0 (a : ByteArray) (h1 : 0 < a.size) (h2 : a.size ≤ 1048576) (w : World) : Calls Try.prog 6 #[.string a, .string ⟨#[]⟩] w fun e w' => e = .returned (.int .i64 1) ∧ w' = w := by
  go_enter Try.func6, Try.ntmps6
  go_wp2
  refine wp_loop_rounds 1 ?_
  rw [rounds_succ]
  go_wp2
  go_ret
  exact ⟨rfl, rfl⟩

theorem zz_ok (a b : ByteArray) (h : a.size + b.size ≤ 1048576) (w : World) : Calls Try.prog 4 #[.string a, .string b] w fun e w' => e = .returned (.bool true) ∧ w' = w := by
  go_enter Try.func4, Try.ntmps4
  go_wp2
  go_ret
  exact ⟨rfl, rfl⟩

/-! ### THE LAW, a walk a way -/
theorem law_bigA (a b : ByteArray) (h : 1048576 < a.size) (ha : a.size ≤ 9223372036854775807) (w : World) : Calls Try.prog 3 #[.string a, .string b] w fun e w' => e = .returned (.bool true) ∧ w' = w := by
  go_enter Try.func3, Try.ntmps3
  go_wp2
  go_ret
  exact ⟨rfl, rfl⟩

theorem law_bigB (a b : ByteArray) (h : a.size ≤ 1048576) (h2 : 1048576 < b.size) (hb : b.size ≤ 9223372036854775807) (w : World) : Calls Try.prog 3 #[.string a, .string b] w fun e w' => e = .returned (.bool true) ∧ w' = w := by
  go_enter Try.func3, Try.ntmps3
  go_wp2
  go_ret
  exact ⟨rfl, rfl⟩

theorem law_bigS (a b : ByteArray) (h : a.size ≤ 1048576) (h2 : b.size ≤ 1048576) (h3 : 1048576 < a.size + b.size) (w : World) : Calls Try.prog 3 #[.string a, .string b] w fun e w' => e = .returned (.bool true) ∧ w' = w := by
  go_enter Try.func3, Try.ntmps3
  go_wp2
  go_ret
  exact ⟨rfl, rfl⟩

theorem law_both (a b : ByteArray) (h : 0 < a.size) (h2 : 0 < b.size) (h3 : a.size + b.size ≤ 1048576) (w : World) : Calls Try.prog 3 #[.string a, .string b] w fun e w' => e = .returned (.bool true) ∧ w' = w := by
  have e1 : ((a.size : Int) != 0) = true := by rw [bne_iff_ne]; omega
  have e2 : ((b.size : Int) != 0) = true := by rw [bne_iff_ne]; omega
  go_enter Try.func3, Try.ntmps3
  go_wp2_with fail
  refine (zz_ok a b h3 _).mono ?_
  rintro e w' ⟨rfl, rfl⟩
  go_wp2_with fail
  go_ret
  exact ⟨rfl, rfl⟩

theorem law_00 (w : World) : Calls Try.prog 3 #[.string ⟨#[]⟩, .string ⟨#[]⟩] w fun e w' => e = .returned (.bool true) ∧ w' = w := by
  go_enter Try.func3, Try.ntmps3
  go_wp2_with (first | (go_at_call 5; refine (cmp_00 _).mono ?_; rintro e w' ⟨rfl, rfl⟩) | (go_at_call 6; refine (lex_00 _).mono ?_; rintro e w' ⟨rfl, rfl⟩) | go_in)
  go_ret
  exact ⟨rfl, rfl⟩

theorem law_0b (b : ByteArray) (h1 : 0 < b.size) (h2 : b.size ≤ 1048576) (hl1 : (([] : List UInt8) == b.toList) = false) (hl2 : (b.toList == ([] : List UInt8)) = false) (w : World) : Calls Try.prog 3 #[.string ⟨#[]⟩, .string b] w fun e w' => e = .returned (.bool true) ∧ w' = w := by
  have e2 : ((b.size : Int) != 0) = true := by rw [bne_iff_ne]; omega
  go_enter Try.func3, Try.ntmps3
  go_wp2_with fail
  refine (zz_ok ⟨#[]⟩ b (show 0 + b.size ≤ 1048576 by omega) _).mono ?_
  rintro e w' ⟨rfl, rfl⟩
  go_wp2_with fail
  refine (cmp_0b b hl1 _).mono ?_
  rintro e w' ⟨rfl, rfl⟩
  go_wp2_with fail
  refine (cmp_a0 b hl2 _).mono ?_
  rintro e w' ⟨rfl, rfl⟩
  go_wp2_with fail
  refine (lex_0b b h1 h2 _).mono ?_
  rintro e w' ⟨rfl, rfl⟩
  go_wp2_with fail
  refine (lex_a0 b h1 h2 _).mono ?_
  rintro e w' ⟨rfl, rfl⟩
  go_wp2
  go_ret
  exact ⟨rfl, rfl⟩

theorem law_a0 (a : ByteArray) (h1 : 0 < a.size) (h2 : a.size ≤ 1048576) (hl1 : (([] : List UInt8) == a.toList) = false) (hl2 : (a.toList == ([] : List UInt8)) = false) (w : World) : Calls Try.prog 3 #[.string a, .string ⟨#[]⟩] w fun e w' => e = .returned (.bool true) ∧ w' = w := by
  have e2 : ((a.size : Int) != 0) = true := by rw [bne_iff_ne]; omega
  go_enter Try.func3, Try.ntmps3
  go_wp2_with fail
  refine (zz_ok a ⟨#[]⟩ (show a.size + 0 ≤ 1048576 by omega) _).mono ?_
  rintro e w' ⟨rfl, rfl⟩
  go_wp2_with fail
  refine (cmp_a0 a hl2 _).mono ?_
  rintro e w' ⟨rfl, rfl⟩
  go_wp2_with fail
  refine (cmp_0b a hl1 _).mono ?_
  rintro e w' ⟨rfl, rfl⟩
  go_wp2_with fail
  refine (lex_a0 a h1 h2 _).mono ?_
  rintro e w' ⟨rfl, rfl⟩
  go_wp2_with fail
  refine (lex_0b a h1 h2 _).mono ?_
  rintro e w' ⟨rfl, rfl⟩
  go_wp2
  go_ret
  exact ⟨rfl, rfl⟩

end Go.Proofs.Qxb6623422a
