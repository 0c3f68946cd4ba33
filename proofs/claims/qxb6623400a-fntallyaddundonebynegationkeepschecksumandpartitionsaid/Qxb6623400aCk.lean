/-
  zzChecksum (6), zzPartition (7), and the plain law of both: no Go in sight.
-/
import Derived.Test.Qxb6623400aSt
namespace Go.Proofs.Qxb6623400a
open Go.RowKit
set_option linter.unusedVariables false

/-! ### THE PLAIN LAW -/
theorem wrap_l (a b : Int) : wrap64 (wrap64 a + b) = wrap64 (a + b) := by unfold wrap64; omega
theorem wrap_r (a b : Int) : wrap64 (a + wrap64 b) = wrap64 (a + b) := by unfold wrap64; omega
theorem wrap_ex (a : Int) : ∃ k, wrap64 a = a + 18446744073709551616 * k := ⟨-((a + 9223372036854775808) / 18446744073709551616), by unfold wrap64; omega⟩
theorem wrap_shift (a k : Int) : wrap64 (a + 18446744073709551616 * k) = wrap64 a := by unfold wrap64; omega

/-- The weighted checksum, as Go reckons it. -/
def ck (x0 x1 x2 x3 x4 x5 : Int) : Int := wrap64 (wrap64 (wrap64 (wrap64 (wrap64 (x0 + wrap64 (3 * x1)) + wrap64 (5 * x2)) + wrap64 (7 * x3)) + wrap64 (11 * x4)) + wrap64 (13 * x5))
/-- Does the tally keep the partition? -/
def part (x0 x2 x3 x4 : Int) : Bool := wrap64 (wrap64 (x2 + x3) + x4) == x0

theorem ck_flat (x0 x1 x2 x3 x4 x5 : Int) : ck x0 x1 x2 x3 x4 x5 = wrap64 (x0 + 3 * x1 + 5 * x2 + 7 * x3 + 11 * x4 + 13 * x5) := by
  unfold ck
  simp only [wrap_l, wrap_r]

theorem ck_sum (t0 t1 t2 t3 t4 t5 u0 u1 u2 u3 u4 u5 : Int) :
    wrap64 (ck t0 t1 t2 t3 t4 t5 + ck u0 u1 u2 u3 u4 u5) = ck (wrap64 (t0 + u0)) (wrap64 (t1 + u1)) (wrap64 (t2 + u2)) (wrap64 (t3 + u3)) (wrap64 (t4 + u4)) (wrap64 (t5 + u5)) := by
  simp only [ck_flat, wrap_l, wrap_r]
  obtain ⟨k1, h1⟩ := wrap_ex (t1 + u1)
  obtain ⟨k2, h2⟩ := wrap_ex (t2 + u2)
  obtain ⟨k3, h3⟩ := wrap_ex (t3 + u3)
  obtain ⟨k4, h4⟩ := wrap_ex (t4 + u4)
  obtain ⟨k5, h5⟩ := wrap_ex (t5 + u5)
  obtain ⟨k0, h0⟩ := wrap_ex (t0 + u0)
  rw [h0, h1, h2, h3, h4, h5]
  rw [← wrap_shift (t0 + 3 * t1 + 5 * t2 + 7 * t3 + 11 * t4 + 13 * t5 + (u0 + 3 * u1 + 5 * u2 + 7 * u3 + 11 * u4 + 13 * u5)) (k0 + 3 * k1 + 5 * k2 + 7 * k3 + 11 * k4 + 13 * k5)]
  congr 1
  omega

theorem part_sum {t0 t2 t3 t4 u0 u2 u3 u4 : Int} (ht : part t0 t2 t3 t4 = true) (hu : part u0 u2 u3 u4 = true) : part (wrap64 (t0 + u0)) (wrap64 (t2 + u2)) (wrap64 (t3 + u3)) (wrap64 (t4 + u4)) = true := by
  unfold part at *
  simp only [beq_iff_eq] at *
  rw [← ht, ← hu]
  simp only [wrap_l, wrap_r]
  congr 1
  omega

theorem undo {t : Int} (u : Int) (h : wrap64 t = t) : wrap64 (wrap64 (t + u) + wrap64 (-u)) = t := by
  rw [wrap_l, wrap_r, show t + u + -u = t by omega, h]

/-! ### THE WALKS -/
theorem ck_any (x0 x1 x2 x3 x4 x5 : Int) (w : World) :
    Calls Try.prog 6 #[.agg #[.int .i64 x0, .int .i64 x1, .int .i64 x2, .int .i64 x3, .int .i64 x4, .int .i64 x5]] w fun e w' => e = .returned (.int .i64 (ck x0 x1 x2 x3 x4 x5)) ∧ w' = w.alloc (blk x0 x1 x2 x3 x4 x5) := by
  go_enter Try.func6, Try.ntmps6
  go_wp2
  go_ret
  exact ⟨rfl, rfl⟩

theorem part_any (x0 x1 x2 x3 x4 x5 : Int) (w : World) :
    Calls Try.prog 7 #[.agg #[.int .i64 x0, .int .i64 x1, .int .i64 x2, .int .i64 x3, .int .i64 x4, .int .i64 x5]] w fun e w' => e = .returned (.bool (part x0 x2 x3 x4)) ∧ w' = w.alloc (blk x0 x1 x2 x3 x4 x5) := by
  go_enter Try.func7, Try.ntmps7
  go_wp2
  go_ret
  exact ⟨rfl, rfl⟩

end Go.Proofs.Qxb6623400a
