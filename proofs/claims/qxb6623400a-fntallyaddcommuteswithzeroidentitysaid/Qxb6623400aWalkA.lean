/-
  THE LAW's WALK: FnTallyAddCommutesWithZeroIdentity (3).
-/
import Derived.Test.Qxb6623400aSt
namespace Go.Proofs.Qxb6623400a
open Go.RowKit
set_option linter.unusedVariables false

set_option maxHeartbeats 3200000 in
theorem walkA (a0 a1 a2 a3 a4 a5 a6 a7 a8 a9 a10 a11 : Int) (s0 s1 s2 s3 s4 s5 : Int) (w : World)
    (wt0 : wrap64 (a0 + 0) = a0) (wt1 : wrap64 (a1 + 0) = a1) (wt2 : wrap64 (a2 + 0) = a2) (wt3 : wrap64 (a3 + 0) = a3) (wt4 : wrap64 (a4 + 0) = a4) (wt5 : wrap64 (a5 + 0) = a5)
    (wu0 : wrap64 (0 + a6) = a6) (wu1 : wrap64 (0 + a7) = a7) (wu2 : wrap64 (0 + a8) = a8) (wu3 : wrap64 (0 + a9) = a9) (wu4 : wrap64 (0 + a10) = a10) (wu5 : wrap64 (0 + a11) = a11)
    (st0 : wrap64 (a0 + a6) = s0) (st1 : wrap64 (a1 + a7) = s1) (st2 : wrap64 (a2 + a8) = s2) (st3 : wrap64 (a3 + a9) = s3) (st4 : wrap64 (a4 + a10) = s4) (st5 : wrap64 (a5 + a11) = s5)
    (su0 : wrap64 (a6 + a0) = s0) (su1 : wrap64 (a7 + a1) = s1) (su2 : wrap64 (a8 + a2) = s2) (su3 : wrap64 (a9 + a3) = s3) (su4 : wrap64 (a10 + a4) = s4) (su5 : wrap64 (a11 + a5) = s5) :
    Calls Try.prog 3 #[.int .i64 a0, .int .i64 a1, .int .i64 a2, .int .i64 a3, .int .i64 a4, .int .i64 a5, .int .i64 a6, .int .i64 a7, .int .i64 a8, .int .i64 a9, .int .i64 a10, .int .i64 a11] w fun e w' => e = .returned (.bool true) ∧ Grown w w' := by
  have hg := guard23
  have he := eql23
  have hn := neq23
  have HT := hid (show _ ∧ _ ∧ _ ∧ _ ∧ _ ∧ _ from ⟨wt0, wt1, wt2, wt3, wt4, wt5⟩)
  have HU := hid (show _ ∧ _ ∧ _ ∧ _ ∧ _ ∧ _ from ⟨wu0, wu1, wu2, wu3, wu4, wu5⟩)
  have HS := hid (show _ ∧ _ ∧ _ ∧ _ ∧ _ ∧ _ from ⟨st0, st1, st2, st3, st4, st5⟩)
  have HR := hid (show _ ∧ _ ∧ _ ∧ _ ∧ _ ∧ _ from ⟨su0, su1, su2, su3, su4, su5⟩)
  clear wt0 wt1 wt2 wt3 wt4 wt5 wu0 wu1 wu2 wu3 wu4 wu5 st0 st1 st2 st3 st4 st5 su0 su1 su2 su3 su4 su5
  go_enter Try.func3, Try.ntmps3
  go_wp2_with fail
  have q0 := St.two w a0 a1 a2 a3 a4 a5 a6 a7 a8 a9 a10 a11
  have p0 := new_blk ((w.alloc (blk a0 a1 a2 a3 a4 a5)).alloc (blk a6 a7 a8 a9 a10 a11)) 0 0 0 0 0 0
  have q0' := q0.alloc 0 0 0 0 0 0
  refine (zadd (w.heap.size + 1 + 1) 0 0 0 0 0 0 a6 a7 a8 a9 a10 a11 a6 a7 a8 a9 a10 a11 _ (by simpa [blk] using p0) HU.out.1 HU.out.2.1 HU.out.2.2.1 HU.out.2.2.2.1 HU.out.2.2.2.2.1 HU.out.2.2.2.2.2).mono ?_
  rintro e x1 ⟨rfl, z1, ad1⟩
  have q1 := q0'.adds ad1 (by omega)
  have k1 := q1.size
  have j1a : w.heap.size < x1.heap.size := by omega
  have j1b : w.heap.size + 1 < x1.heap.size := by omega
  obtain ⟨t10, t11, t12, t13, t14, t15⟩ := blk_cells q1.t
  obtain ⟨u1_0, u1_1, u1_2, u1_3, u1_4, u1_5⟩ := blk_cells q1.u
  obtain ⟨z10, z11, z12, z13, z14, z15⟩ := blk_cells z1
  have l1 := lt_of_block z1
  have G1 := hid q1
  clear q0 q0' p0 ad1 z1 q1
  go_wp2_with fail
  refine (zadd x1.heap.size a0 a1 a2 a3 a4 a5 a6 a7 a8 a9 a10 a11 s0 s1 s2 s3 s4 s5 _ (by simpa [blk] using new_blk x1 a0 a1 a2 a3 a4 a5) HS.out.1 HS.out.2.1 HS.out.2.2.1 HS.out.2.2.2.1 HS.out.2.2.2.2.1 HS.out.2.2.2.2.2).mono ?_
  rintro e x2 ⟨rfl, m2, ad2⟩
  have q2 := (G1.out.alloc a0 a1 a2 a3 a4 a5).adds ad2 (by omega)
  have k2 := q2.size
  have j2a : w.heap.size < x2.heap.size := by omega
  have j2b : w.heap.size + 1 < x2.heap.size := by omega
  obtain ⟨t20, t21, t22, t23, t24, t25⟩ := blk_cells q2.t
  obtain ⟨u2_0, u2_1, u2_2, u2_3, u2_4, u2_5⟩ := blk_cells q2.u
  obtain ⟨m2_0, m2_1, m2_2, m2_3, m2_4, m2_5⟩ := blk_cells m2
  have l2 := lt_of_block m2
  have M2 := hid m2
  have G2 := hid q2
  clear ad2 m2 q2 z10 z11 z12 z13 z14 z15 t10 t11 t12 t13 t14 t15 u1_0 u1_1 u1_2 u1_3 u1_4 u1_5
  go_wp2_with fail
  refine (zadd x2.heap.size a6 a7 a8 a9 a10 a11 a0 a1 a2 a3 a4 a5 s0 s1 s2 s3 s4 s5 _ (by simpa [blk] using new_blk x2 a6 a7 a8 a9 a10 a11) HR.out.1 HR.out.2.1 HR.out.2.2.1 HR.out.2.2.2.1 HR.out.2.2.2.2.1 HR.out.2.2.2.2.2).mono ?_
  rintro e x3 ⟨rfl, m3, ad3⟩
  have q3 := (G2.out.alloc a6 a7 a8 a9 a10 a11).adds ad3 (by omega)
  have n3 := (ad3.other x1.heap.size (by simp; omega) (by omega)).trans ((Below.heap_alloc x2 _ _ l2).trans M2.out)
  have k3 := q3.size
  have j3a : w.heap.size < x3.heap.size := by omega
  have j3b : w.heap.size + 1 < x3.heap.size := by omega
  obtain ⟨t30, t31, t32, t33, t34, t35⟩ := blk_cells q3.t
  obtain ⟨u3_0, u3_1, u3_2, u3_3, u3_4, u3_5⟩ := blk_cells q3.u
  obtain ⟨m3_0, m3_1, m3_2, m3_3, m3_4, m3_5⟩ := blk_cells m3
  obtain ⟨n3_0, n3_1, n3_2, n3_3, n3_4, n3_5⟩ := blk_cells n3
  have l3 := lt_of_block m3
  have l3' := lt_of_block n3
  have G3 := hid q3
  clear ad3 m3 n3 q3 m2_0 m2_1 m2_2 m2_3 m2_4 m2_5 t20 t21 t22 t23 t24 t25 u2_0 u2_1 u2_2 u2_3 u2_4 u2_5
  go_wp2_with fail
  refine (zadd x3.heap.size a0 a1 a2 a3 a4 a5 0 0 0 0 0 0 a0 a1 a2 a3 a4 a5 _ (by simpa [blk] using new_blk x3 a0 a1 a2 a3 a4 a5) HT.out.1 HT.out.2.1 HT.out.2.2.1 HT.out.2.2.2.1 HT.out.2.2.2.2.1 HT.out.2.2.2.2.2).mono ?_
  rintro e x4 ⟨rfl, m4, ad4⟩
  have q4 := (G3.out.alloc a0 a1 a2 a3 a4 a5).adds ad4 (by omega)
  have k4 := q4.size
  have j4a : w.heap.size < x4.heap.size := by omega
  have j4b : w.heap.size + 1 < x4.heap.size := by omega
  obtain ⟨t40, t41, t42, t43, t44, t45⟩ := blk_cells q4.t
  obtain ⟨u4_0, u4_1, u4_2, u4_3, u4_4, u4_5⟩ := blk_cells q4.u
  obtain ⟨m4_0, m4_1, m4_2, m4_3, m4_4, m4_5⟩ := blk_cells m4
  have GG := hid q4.grown
  clear ad4 m4 q4 m3_0 m3_1 m3_2 m3_3 m3_4 m3_5 n3_0 n3_1 n3_2 n3_3 n3_4 n3_5 t30 t31 t32 t33 t34 t35 u3_0 u3_1 u3_2 u3_3 u3_4 u3_5
  go_wp2
  go_ret
  exact ⟨rfl, GG.out⟩

end Go.Proofs.Qxb6623400a
