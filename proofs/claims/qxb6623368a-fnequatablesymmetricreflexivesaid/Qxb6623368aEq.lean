/-
  equatable (5), numeric (6), ZZEquatable (4): what they answer, of every pair of types. 'e1': the answer where no item kind is left; 'e2': the answer.
-/
import Derived.Test.Qxb6623368aRows
import Derived.WalkKit
import Derived.WalkSpells
namespace Go.Proofs.Qxb6623368a
open Go.RowKit
set_option linter.unusedVariables false

theorem w_any1 (ai bk bi : Int) (w : World) :
    Calls Try.prog 5 #[.agg #[.int .i64 8, .int .i64 ai], .agg #[.int .i64 bk, .int .i64 bi]] w fun e w' => e = .returned (.bool true) ∧ ∀ W, Grown W w → Grown W w' := by
  go_enter Try.func5, Try.ntmps5
  go_wp2
  go_ret
  exact ⟨rfl, fun W h => by repeat (first | exact h | apply Grown.drew | apply Grown.alloc)⟩

theorem w_any2 (ak ai bi : Int) (h8 : (ak == 8) = false) (w : World) :
    Calls Try.prog 5 #[.agg #[.int .i64 ak, .int .i64 ai], .agg #[.int .i64 8, .int .i64 bi]] w fun e w' => e = .returned (.bool true) ∧ ∀ W, Grown W w → Grown W w' := by
  go_enter Try.func5, Try.ntmps5
  go_wp2
  go_ret
  exact ⟨rfl, fun W h => by repeat (first | exact h | apply Grown.drew | apply Grown.alloc)⟩

theorem w_num11 (ai bi : Int) (w : World) :
    Calls Try.prog 5 #[.agg #[.int .i64 1, .int .i64 ai], .agg #[.int .i64 1, .int .i64 bi]] w fun e w' => e = .returned (.bool true) ∧ ∀ W, Grown W w → Grown W w' := by
  go_enter Try.func5, Try.ntmps5
  go_wp2
  go_ret
  exact ⟨rfl, fun W h => by repeat (first | exact h | apply Grown.drew | apply Grown.alloc)⟩

theorem w_num12 (ai bi : Int) (w : World) :
    Calls Try.prog 5 #[.agg #[.int .i64 1, .int .i64 ai], .agg #[.int .i64 2, .int .i64 bi]] w fun e w' => e = .returned (.bool true) ∧ ∀ W, Grown W w → Grown W w' := by
  go_enter Try.func5, Try.ntmps5
  go_wp2
  go_ret
  exact ⟨rfl, fun W h => by repeat (first | exact h | apply Grown.drew | apply Grown.alloc)⟩

theorem w_num21 (ai bi : Int) (w : World) :
    Calls Try.prog 5 #[.agg #[.int .i64 2, .int .i64 ai], .agg #[.int .i64 1, .int .i64 bi]] w fun e w' => e = .returned (.bool true) ∧ ∀ W, Grown W w → Grown W w' := by
  go_enter Try.func5, Try.ntmps5
  go_wp2
  go_ret
  exact ⟨rfl, fun W h => by repeat (first | exact h | apply Grown.drew | apply Grown.alloc)⟩

theorem w_num22 (ai bi : Int) (w : World) :
    Calls Try.prog 5 #[.agg #[.int .i64 2, .int .i64 ai], .agg #[.int .i64 2, .int .i64 bi]] w fun e w' => e = .returned (.bool true) ∧ ∀ W, Grown W w → Grown W w' := by
  go_enter Try.func5, Try.ntmps5
  go_wp2
  go_ret
  exact ⟨rfl, fun W h => by repeat (first | exact h | apply Grown.drew | apply Grown.alloc)⟩

theorem w_off1 (ai bk bi : Int) (h8 : (bk == 8) = false) (h1 : (bk == 1) = false) (h2 : (bk == 2) = false) (w : World) :
    Calls Try.prog 5 #[.agg #[.int .i64 1, .int .i64 ai], .agg #[.int .i64 bk, .int .i64 bi]] w fun e w' => e = .returned (.bool false) ∧ ∀ W, Grown W w → Grown W w' := by
  have h3 : ((1 : Int) == bk) = false := by simp at h1 ⊢; omega
  go_enter Try.func5, Try.ntmps5
  go_wp2
  go_ret
  exact ⟨rfl, fun W h => by repeat (first | exact h | apply Grown.drew | apply Grown.alloc)⟩

theorem w_off2 (ai bk bi : Int) (h8 : (bk == 8) = false) (h1 : (bk == 1) = false) (h2 : (bk == 2) = false) (w : World) :
    Calls Try.prog 5 #[.agg #[.int .i64 2, .int .i64 ai], .agg #[.int .i64 bk, .int .i64 bi]] w fun e w' => e = .returned (.bool false) ∧ ∀ W, Grown W w → Grown W w' := by
  have h3 : ((2 : Int) == bk) = false := by simp at h2 ⊢; omega
  go_enter Try.func5, Try.ntmps5
  go_wp2
  go_ret
  exact ⟨rfl, fun W h => by repeat (first | exact h | apply Grown.drew | apply Grown.alloc)⟩

theorem w_off (ak ai bk bi : Int) (h8 : (ak == 8) = false) (h1 : (ak == 1) = false) (h2 : (ak == 2) = false) (g8 : (bk == 8) = false) (hne : (ak == bk) = false) (w : World) :
    Calls Try.prog 5 #[.agg #[.int .i64 ak, .int .i64 ai], .agg #[.int .i64 bk, .int .i64 bi]] w fun e w' => e = .returned (.bool false) ∧ ∀ W, Grown W w → Grown W w' := by
  go_enter Try.func5, Try.ntmps5
  go_wp2
  go_ret
  exact ⟨rfl, fun W h => by repeat (first | exact h | apply Grown.drew | apply Grown.alloc)⟩

theorem w_same (k ai bi : Int) (h8 : (k == 8) = false) (h1 : (k == 1) = false) (h2 : (k == 2) = false) (h6 : (k == 6) = false) (h7 : (k == 7) = false) (w : World) :
    Calls Try.prog 5 #[.agg #[.int .i64 k, .int .i64 ai], .agg #[.int .i64 k, .int .i64 bi]] w fun e w' => e = .returned (.bool true) ∧ ∀ W, Grown W w → Grown W w' := by
  go_enter Try.func5, Try.ntmps5
  go_wp2
  go_ret
  exact ⟨rfl, fun W h => by repeat (first | exact h | apply Grown.drew | apply Grown.alloc)⟩

theorem w_list (ai bi : Int) (r : Bool) (w : World)
    (hr : ∀ w, Calls Try.prog 5 #[.agg #[.int .i64 ai, .int .i64 0], .agg #[.int .i64 bi, .int .i64 0]] w fun e w' => e = .returned (.bool r) ∧ ∀ W, Grown W w → Grown W w') :
    Calls Try.prog 5 #[.agg #[.int .i64 6, .int .i64 ai], .agg #[.int .i64 6, .int .i64 bi]] w fun e w' => e = .returned (.bool r) ∧ ∀ W, Grown W w → Grown W w' := by
  have HR : Hid (∀ w, Calls Try.prog 5 #[.agg #[.int .i64 ai, .int .i64 0], .agg #[.int .i64 bi, .int .i64 0]] w fun e w' => e = .returned (.bool r) ∧ ∀ W, Grown W w → Grown W w') := hr
  clear hr
  go_enter Try.func5, Try.ntmps5
  go_wp2_with (first | (go_at_call 5; refine (HR.out _).mono ?_; rintro e w' ⟨rfl, hg⟩) | go_in)
  go_ret
  exact ⟨rfl, fun W h => hg W (by repeat (first | exact h | apply Grown.drew | apply Grown.alloc))⟩

theorem w_map (ai bi : Int) (r : Bool) (w : World)
    (hr : ∀ w, Calls Try.prog 5 #[.agg #[.int .i64 ai, .int .i64 0], .agg #[.int .i64 bi, .int .i64 0]] w fun e w' => e = .returned (.bool r) ∧ ∀ W, Grown W w → Grown W w') :
    Calls Try.prog 5 #[.agg #[.int .i64 7, .int .i64 ai], .agg #[.int .i64 7, .int .i64 bi]] w fun e w' => e = .returned (.bool r) ∧ ∀ W, Grown W w → Grown W w' := by
  have HR : Hid (∀ w, Calls Try.prog 5 #[.agg #[.int .i64 ai, .int .i64 0], .agg #[.int .i64 bi, .int .i64 0]] w fun e w' => e = .returned (.bool r) ∧ ∀ W, Grown W w → Grown W w') := hr
  clear hr
  go_enter Try.func5, Try.ntmps5
  go_wp2_with (first | (go_at_call 5; refine (HR.out _).mono ?_; rintro e w' ⟨rfl, hg⟩) | go_in)
  go_ret
  exact ⟨rfl, fun W h => hg W (by repeat (first | exact h | apply Grown.drew | apply Grown.alloc))⟩

end Go.Proofs.Qxb6623368a
