/-
  'Rows.FnEquatableSymmetricReflexiveSaid' PROVED. The frame is the given shell's.
-/
import Derived.Test.Qxb6623368aEq
import Derived.WalkKit
import Derived.ProofKit
import Derived.OpenShut
import Derived.ShutString
namespace Go.Proofs.Qxb6623368a.fnEquatableSymmetricReflexive
open Go.ChangeShapes Go.WideShapes Go.ChangeAt Go.RowKit
open Go.ChangeMaps (open_string shut_string)
set_option linter.unusedVariables false      -- a walk need not use every 'w<i>' (that an integer argument fits its kind)

theorem own : ownKnob Try.prog.godebug = none := by kernel_rfl

/-! ### THE PLAIN LAW: no Go in sight -/
/-- The answer where no item kind is left. -/
def e1 (a b : Int) : Bool := decide (a = 8 ∨ b = 8 ∨ ((a = 1 ∨ a = 2) ∧ (b = 1 ∨ b = 2)) ∨ a = b)
/-- The answer. -/
def e2 (ak ai bk bi : Int) : Bool := if (ak = 6 ∧ bk = 6) ∨ (ak = 7 ∧ bk = 7) then e1 ai bi else e1 ak bk

theorem e1_symm (a b : Int) : e1 b a = e1 a b := by
  unfold e1
  exact decide_eq_decide.2 (by omega)
theorem e2_symm (ak ai bk bi : Int) : e2 bk bi ak ai = e2 ak ai bk bi := by
  unfold e2
  by_cases h : (ak = 6 ∧ bk = 6) ∨ (ak = 7 ∧ bk = 7)
  · rw [if_pos h, if_pos (by omega), e1_symm]
  · rw [if_neg h, if_neg (by omega), e1_symm]
theorem e1_refl (a : Int) : e1 a a = true := by unfold e1; exact decide_eq_true (by omega)
theorem e2_refl (ak ai : Int) : e2 ak ai ak ai = true := by
  unfold e2
  split
  · exact e1_refl ai
  · exact e1_refl ak

/-! ### equatable, of every pair -/
theorem eq_flat (ak ai bk bi : Int) (w : World) (h : ¬ ((ak = 6 ∧ bk = 6) ∨ (ak = 7 ∧ bk = 7))) :
    Calls Try.prog 5 #[.agg #[.int .i64 ak, .int .i64 ai], .agg #[.int .i64 bk, .int .i64 bi]] w fun e w' => e = .returned (.bool (e1 ak bk)) ∧ ∀ W, Grown W w → Grown W w' := by
  by_cases a8 : ak = 8
  · subst a8; rw [show e1 8 bk = true from decide_eq_true (by omega)]; exact w_any1 ai bk bi w
  by_cases b8 : bk = 8
  · subst b8; rw [show e1 ak 8 = true from decide_eq_true (by omega)]; exact w_any2 ak ai bi (by simpa using a8) w
  by_cases a1 : ak = 1
  · subst a1
    by_cases b1 : bk = 1
    · subst b1; rw [show e1 1 1 = true from decide_eq_true (by omega)]; exact w_num11 ai bi w
    by_cases b2 : bk = 2
    · subst b2; rw [show e1 1 2 = true from decide_eq_true (by omega)]; exact w_num12 ai bi w
    rw [show e1 1 bk = false from decide_eq_false (by omega)]; exact w_off1 ai bk bi (by simpa using b8) (by simpa using b1) (by simpa using b2) w
  by_cases a2 : ak = 2
  · subst a2
    by_cases b1 : bk = 1
    · subst b1; rw [show e1 2 1 = true from decide_eq_true (by omega)]; exact w_num21 ai bi w
    by_cases b2 : bk = 2
    · subst b2; rw [show e1 2 2 = true from decide_eq_true (by omega)]; exact w_num22 ai bi w
    rw [show e1 2 bk = false from decide_eq_false (by omega)]; exact w_off2 ai bk bi (by simpa using b8) (by simpa using b1) (by simpa using b2) w
  by_cases hab : ak = bk
  · subst hab
    rw [e1_refl]
    exact w_same ak ai bi (by simpa using a8) (by simpa using a1) (by simpa using a2) (by simp; omega) (by simp; omega) w
  · rw [show e1 ak bk = false from decide_eq_false (by omega)]
    exact w_off ak ai bk bi (by simpa using a8) (by simpa using a1) (by simpa using a2) (by simpa using b8) (by simpa using hab) w

theorem eq_zero (w : World) :
    Calls Try.prog 5 #[.agg #[.int .i64 0, .int .i64 0], .agg #[.int .i64 0, .int .i64 0]] w fun e w' => e = .returned (.bool true) ∧ ∀ W, Grown W w → Grown W w' :=
  w_same 0 0 0 rfl rfl rfl rfl rfl w

theorem eq_bare (a b : Int) (w : World) :
    Calls Try.prog 5 #[.agg #[.int .i64 a, .int .i64 0], .agg #[.int .i64 b, .int .i64 0]] w fun e w' => e = .returned (.bool (e1 a b)) ∧ ∀ W, Grown W w → Grown W w' := by
  by_cases h6 : a = 6 ∧ b = 6
  · obtain ⟨rfl, rfl⟩ := h6; rw [e1_refl]; exact w_list 0 0 true w eq_zero
  by_cases h7 : a = 7 ∧ b = 7
  · obtain ⟨rfl, rfl⟩ := h7; rw [e1_refl]; exact w_map 0 0 true w eq_zero
  exact eq_flat a 0 b 0 w (by omega)

theorem eq_any (ak ai bk bi : Int) (w : World) :
    Calls Try.prog 5 #[.agg #[.int .i64 ak, .int .i64 ai], .agg #[.int .i64 bk, .int .i64 bi]] w fun e w' => e = .returned (.bool (e2 ak ai bk bi)) ∧ ∀ W, Grown W w → Grown W w' := by
  by_cases h6 : ak = 6 ∧ bk = 6
  · obtain ⟨rfl, rfl⟩ := h6; exact w_list ai bi (e1 ai bi) w (eq_bare ai bi)
  by_cases h7 : ak = 7 ∧ bk = 7
  · obtain ⟨rfl, rfl⟩ := h7; exact w_map ai bi (e1 ai bi) w (eq_bare ai bi)
  have hn : ¬ ((ak = 6 ∧ bk = 6) ∨ (ak = 7 ∧ bk = 7)) := by omega
  unfold e2
  rw [if_neg hn]
  exact eq_flat ak ai bk bi w hn

theorem z_any (ak ai bk bi : Int) (w : World) :
    Calls Try.prog 4 #[.int .i64 ak, .int .i64 ai, .int .i64 bk, .int .i64 bi] w fun e w' => e = .returned (.bool (e2 ak ai bk bi)) ∧ ∀ W, Grown W w → Grown W w' := by
  go_enter Try.func4, Try.ntmps4
  go_wp2_with (go_at_call 5; refine (eq_any ak ai bk bi _).mono ?_; rintro e w' ⟨rfl, hg⟩)
  go_ret
  exact ⟨rfl, by assumption⟩

/-! ### STEP 1: THE WALK -/
theorem walk (a0 : Int) (a1 : Int) (a2 : Int) (a3 : Int) (w0 : (Lit.int .i64 a0).wf = true) (w1 : (Lit.int .i64 a1).wf = true) (w2 : (Lit.int .i64 a2).wf = true) (w3 : (Lit.int .i64 a3).wf = true) (w : World) :
    Calls Try.prog 3 #[.int .i64 a0, .int .i64 a1, .int .i64 a2, .int .i64 a3] w fun e w' => e = .returned (.bool true) ∧ Grown w w' := by
  have z1 : Hid (∀ w, Calls Try.prog 4 #[.int .i64 a0, .int .i64 a1, .int .i64 a2, .int .i64 a3] w fun e w' => e = .returned (.bool (e2 a0 a1 a2 a3)) ∧ ∀ W, Grown W w → Grown W w') := fun w => z_any a0 a1 a2 a3 w
  have z2 : Hid (∀ w, Calls Try.prog 4 #[.int .i64 a2, .int .i64 a3, .int .i64 a0, .int .i64 a1] w fun e w' => e = .returned (.bool (e2 a0 a1 a2 a3)) ∧ ∀ W, Grown W w → Grown W w') := fun w => by rw [← e2_symm]; exact z_any a2 a3 a0 a1 w
  have z3 : Hid (∀ w, Calls Try.prog 4 #[.int .i64 a0, .int .i64 a1, .int .i64 a0, .int .i64 a1] w fun e w' => e = .returned (.bool true) ∧ ∀ W, Grown W w → Grown W w') := fun w => by rw [← e2_refl a0 a1]; exact z_any a0 a1 a0 a1 w
  have z4 : Hid (∀ w, Calls Try.prog 4 #[.int .i64 a2, .int .i64 a3, .int .i64 a2, .int .i64 a3] w fun e w' => e = .returned (.bool true) ∧ ∀ W, Grown W w → Grown W w') := fun w => by rw [← e2_refl a2 a3]; exact z_any a2 a3 a2 a3 w
  obtain ⟨r, hr⟩ : ∃ r, r = e2 a0 a1 a2 a3 := ⟨_, rfl⟩
  rw [← hr] at z1 z2
  clear hr
  go_enter Try.func3, Try.ntmps3
  go_wp2_with fail
  refine (z1.out _).mono ?_
  rintro e x1 ⟨rfl, g1⟩
  go_wp2_with fail
  refine (z2.out _).mono ?_
  rintro e x2 ⟨rfl, g2⟩
  go_wp2_with fail
  refine (z3.out _).mono ?_
  rintro e x3 ⟨rfl, g3⟩
  go_wp2_with fail
  refine (z4.out _).mono ?_
  rintro e x4 ⟨rfl, g4⟩
  go_wp2
  go_ret
  exact ⟨rfl, g4 _ (g3 _ (g2 _ (g1 _ (Grown.refl _))))⟩

/-! ### THE ROW's STEP: as the shell has it -/
set_option maxRecDepth 100000 in
theorem lifted (os : Os) (started : os.Started) (H : Type) (enc : TypeId × Value → H) :
    ReturnsInHanded {} Try.checked os 3 .any (Rows.fnEquatableSymmetricReflexiveSpec.pre6 enc Try.prog Try.f3 Rows.fnEquatableSymmetricReflexiveRow.domain false) (Rows.fnEquatableSymmetricReflexiveSpec.post enc Try.prog Try.f3 false true false false) := by
  refine returnsInHanded_of_change (C := Try.checked) own started (by kernel_rfl) Try.func3
    (ChangeSpec.witness6 (enc := enc) (C := Try.checked) false ⟨#[], #[.int .i64 0, .int .i64 0, .int .i64 0, .int .i64 0], []⟩ 8 (by kernel_rfl) (by kernel_rfl) (by kernel_rfl) (by kernel_rfl)) ?_
  intro W base args ds gs before hval0 hW hcnd _
  have hval : ∀ (j : Nat) t v, Try.f3.params[j]? = some t → args[j]? = some v → Value.okWide Try.prog W .any base t v := hval0
  have hW' := hW
  obtain ⟨p, q, hA0, hV, rfl, hfz, hnd⟩ := hW
  have hA : DataW.TrodAll enc Try.prog W 0 (fun _ => true) true Try.f3.params.toList args.toList ds p := hA0
  rw [Try.params3] at hA hval
  obtain ⟨v0, vs0, d0, ds0, p0, q0, hargs, rfl, rfl, h0, r0⟩ := trodAll_cons hA
  obtain ⟨v1, vs1, d1, ds1, p1, q1, rfl, rfl, rfl, h1, r1⟩ := trodAll_cons r0
  obtain ⟨v2, vs2, d2, ds2, p2, q2, rfl, rfl, rfl, h2, r2⟩ := trodAll_cons r1
  obtain ⟨v3, vs3, d3, ds3, p3, q3, rfl, rfl, rfl, h3, r3⟩ := trodAll_cons r2
  obtain ⟨rfl, rfl, rfl⟩ := trodAll_nil r3
  obtain rfl : args = #[v0, v1, v2, v3] := by cases args; simp_all
  obtain ⟨rfl, rfl⟩ := trodVars_none hV
  obtain ⟨a0, rfl, rfl, rfl, w0⟩ := open_int Try.underlying3 (hval 0 3 v0 rfl rfl) h0
  obtain ⟨a1, rfl, rfl, rfl, w1⟩ := open_int Try.underlying3 (hval 1 3 v1 rfl rfl) h1
  obtain ⟨a2, rfl, rfl, rfl, w2⟩ := open_int Try.underlying3 (hval 2 3 v2 rfl rfl) h2
  obtain ⟨a3, rfl, rfl, rfl, w3⟩ := open_int Try.underlying3 (hval 3 3 v3 rfl rfl) h3
  clear hA0 hval0
  simp only [List.append_nil] at hW'
  refine (walk a0 a1 a2 a3 w0 w1 w2 w3 W).mono fun e W' ⟨he, hg⟩ => ?_
  subst he
  exact ⟨_, rfl, post_of_same (pa := []) (pv := []) hW' (fun _ _ _ => (trodAll_cons_mk (shut_bool Try.underlying4 _) trodAll_mk0)) (fun sp _ => (trodAll_cons_mk (shut_int Try.underlying3 w0) (trodAll_cons_mk (shut_int Try.underlying3 w1) (trodAll_cons_mk (shut_int Try.underlying3 w2) (trodAll_cons_mk (shut_int Try.underlying3 w3) trodAll_mk0))))) (fun _ _ => rfl) rfl
    (hg.frame _) hg.2.1 (ok_one (by kernel_rfl) rfl (okWide_bool_mk Try.underlying4 _))⟩

theorem over : Rows.fnEquatableSymmetricReflexiveRow.holds Try.pinned (OpenSpec.ofChange Rows.fnEquatableSymmetricReflexiveSpec) :=
  OpenClaim.holds_of_wide 3 Try.f3 rfl rfl rfl rfl rfl rfl rfl ⟨rfl, rfl, rfl, rfl, rfl⟩ rfl rfl rfl rfl rfl (by kernel_rfl) Try.func3 (by kernel_rfl)
    (of_decide_eq_true (by kernel_rfl)) (by unfold Func.isWrapper; first | (rw [if_pos (by decide +kernel)]; kernel_rfl) | (rw [if_neg (by decide +kernel)]; exact ⟨rfl, rfl⟩))
    (fun os started H enc _ => lifted os started H enc)

/-- THE STATEMENT -/
theorem proved : Rows.FnEquatableSymmetricReflexiveSaid :=
  over
end Go.Proofs.Qxb6623368a.fnEquatableSymmetricReflexive
