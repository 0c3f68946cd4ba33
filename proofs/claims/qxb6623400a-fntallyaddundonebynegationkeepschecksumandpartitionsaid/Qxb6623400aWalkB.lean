/-
  THE LAW's WALK: FnTallyAddUndoneByNegationKeepsChecksumAndPartition (4).
-/
import Derived.Test.Qxb6623400aCk
import Derived.Deep.QuietTactic
namespace Go.Proofs.Qxb6623400a
open Go.RowKit
set_option linter.unusedVariables false

/-- What stands behind the additions: t, u and the sum s in their blocks. -/
structure Sums (w : World) (t0 t1 t2 t3 t4 t5 u0 u1 u2 u3 u4 u5 s0 s1 s2 s3 s4 s5 : Int) (x : World) : Prop where
  st : St w t0 t1 t2 t3 t4 t5 u0 u1 u2 u3 u4 u5 x
  s : x.heap[w.heap.size + 1 + 1 + 1]? = some (blk s0 s1 s2 s3 s4 s5)

theorem Sums.alloc {w : World} {t0 t1 t2 t3 t4 t5 u0 u1 u2 u3 u4 u5 s0 s1 s2 s3 s4 s5 : Int} {x : World} (h : Sums w t0 t1 t2 t3 t4 t5 u0 u1 u2 u3 u4 u5 s0 s1 s2 s3 s4 s5 x) (y0 y1 y2 y3 y4 y5 : Int) : Sums w t0 t1 t2 t3 t4 t5 u0 u1 u2 u3 u4 u5 s0 s1 s2 s3 s4 s5 (x.alloc (blk y0 y1 y2 y3 y4 y5)) :=
  ⟨h.st.alloc _ _ _ _ _ _, (Below.heap_alloc _ _ _ (lt_of_block h.s)).trans h.s⟩

theorem Sums.drew {w : World} {t0 t1 t2 t3 t4 t5 u0 u1 u2 u3 u4 u5 s0 s1 s2 s3 s4 s5 : Int} {x : World} (h : Sums w t0 t1 t2 t3 t4 t5 u0 u1 u2 u3 u4 u5 s0 s1 s2 s3 s4 s5 x) : Sums w t0 t1 t2 t3 t4 t5 u0 u1 u2 u3 u4 u5 s0 s1 s2 s3 s4 s5 x.drew :=
  ⟨⟨h.st.t, h.st.u, h.st.grown.drew, h.st.size⟩, h.s⟩

theorem third (w : World) (b1 b2 b3 b4 : Obj) : ((((w.alloc b1).alloc b2).alloc b3).alloc b4).heap[w.heap.size + 1 + 1]? = some b3 := by
  have h := heap_alloc_new ((w.alloc b1).alloc b2) b3
  have e : ((w.alloc b1).alloc b2).heap.size = w.heap.size + 1 + 1 := by simp
  rw [e] at h
  exact (Below.heap_alloc _ _ _ (by simp)).trans h
theorem fourth (w : World) (b1 b2 b3 b4 : Obj) : ((((w.alloc b1).alloc b2).alloc b3).alloc b4).heap[w.heap.size + 1 + 1 + 1]? = some b4 := by
  have h := heap_alloc_new (((w.alloc b1).alloc b2).alloc b3) b4
  have e : (((w.alloc b1).alloc b2).alloc b3).heap.size = w.heap.size + 1 + 1 + 1 := by simp
  rw [e] at h
  exact h

/-- A region that draws its order, over a family of worlds: one walk in the order of the text. -/
theorem region_family {P : Program} {id : Nat} {Q : Exit → Act → World → Prop} {a : Act} {w : World} {l : List Oper} (C : World → Prop) (hm : P.follows .mixedOrders = true) (hB : Region.lexB .any l.toArray = true) (hC : C w.drew)
    (h : wpQuiet P l.toArray C (fun a' => ∀ w', C w' → Q .normal a' w') l a) : (Code.region id l.toArray true).wp P Q a w :=
  wp_region_quiet (C := C) hm hB hC (by simpa using h)

/-- One operation of it. -/
theorem quiet_one {P : Program} {ops : Array Oper} {C : World → Prop} {Q : Act → Prop} {o : Oper} {rest : List Oper} {a : Act} (v : Value) (hg : o.guard = none) (h : ∀ x, C x → o.quietAt P a C x v) (hk : wpQuiet P ops C Q rest (a.put o.dst v)) : wpQuiet P ops C Q (o :: rest) a := by
  have hw : Region.wanted o (yielded ops a.tmps) = true := by simp [Region.wanted, hg]
  unfold wpQuiet
  rw [if_pos hw]
  exact ⟨v, h, hk⟩

set_option maxHeartbeats 3200000 in
theorem walkB (a0 a1 a2 a3 a4 a5 a6 a7 a8 a9 a10 a11 : Int) (s0 s1 s2 s3 s4 s5 : Int) (w : World)
    (st0 : wrap64 (a0 + a6) = s0) (st1 : wrap64 (a1 + a7) = s1) (st2 : wrap64 (a2 + a8) = s2) (st3 : wrap64 (a3 + a9) = s3) (st4 : wrap64 (a4 + a10) = s4) (st5 : wrap64 (a5 + a11) = s5)
    (sb0 : wrap64 (s0 + (wrap64 (-a6))) = a0) (sb1 : wrap64 (s1 + (wrap64 (-a7))) = a1) (sb2 : wrap64 (s2 + (wrap64 (-a8))) = a2) (sb3 : wrap64 (s3 + (wrap64 (-a9))) = a3) (sb4 : wrap64 (s4 + (wrap64 (-a10))) = a4) (sb5 : wrap64 (s5 + (wrap64 (-a11))) = a5)
    (hck : wrap64 (ck a0 a1 a2 a3 a4 a5 + ck a6 a7 a8 a9 a10 a11) = ck s0 s1 s2 s3 s4 s5) (hpart : part a0 a2 a3 a4 = true → part a6 a8 a9 a10 = true → part s0 s2 s3 s4 = true) :
    Calls Try.prog 4 #[.int .i64 a0, .int .i64 a1, .int .i64 a2, .int .i64 a3, .int .i64 a4, .int .i64 a5, .int .i64 a6, .int .i64 a7, .int .i64 a8, .int .i64 a9, .int .i64 a10, .int .i64 a11] w fun e w' => e = .returned (.bool true) ∧ Grown w w' := by
  have hg := guard23
  have he := eql23
  have hn := neq23
  have HS := hid (show _ ∧ _ ∧ _ ∧ _ ∧ _ ∧ _ from ⟨st0, st1, st2, st3, st4, st5⟩)
  have HB := hid (show _ ∧ _ ∧ _ ∧ _ ∧ _ ∧ _ from ⟨sb0, sb1, sb2, sb3, sb4, sb5⟩)
  have HK := hid hck
  have HP := hid hpart
  clear st0 st1 st2 st3 st4 st5 sb0 sb1 sb2 sb3 sb4 sb5 hck hpart
  go_enter Try.func4, Try.ntmps4
  go_wp2_with fail
  have q0 := St.two w a0 a1 a2 a3 a4 a5 a6 a7 a8 a9 a10 a11
  have q1 := (q0.alloc (wrap64 (-a6)) (wrap64 (-a7)) (wrap64 (-a8)) (wrap64 (-a9)) (wrap64 (-a10)) (wrap64 (-a11))).alloc a0 a1 a2 a3 a4 a5
  have p1 := fourth w (blk a0 a1 a2 a3 a4 a5) (blk a6 a7 a8 a9 a10 a11) (blk (wrap64 (-a6)) (wrap64 (-a7)) (wrap64 (-a8)) (wrap64 (-a9)) (wrap64 (-a10)) (wrap64 (-a11))) (blk a0 a1 a2 a3 a4 a5)
  have n1 := third w (blk a0 a1 a2 a3 a4 a5) (blk a6 a7 a8 a9 a10 a11) (blk (wrap64 (-a6)) (wrap64 (-a7)) (wrap64 (-a8)) (wrap64 (-a9)) (wrap64 (-a10)) (wrap64 (-a11))) (blk a0 a1 a2 a3 a4 a5)
  refine (zadd (w.heap.size + 1 + 1 + 1) a0 a1 a2 a3 a4 a5 a6 a7 a8 a9 a10 a11 s0 s1 s2 s3 s4 s5 _ p1 HS.out.1 HS.out.2.1 HS.out.2.2.1 HS.out.2.2.2.1 HS.out.2.2.2.2.1 HS.out.2.2.2.2.2).mono ?_
  rintro e x1 ⟨rfl, m1, ad1⟩
  have q1' := q1.adds ad1 (by omega)
  have n1' := (ad1.other (w.heap.size + 1 + 1) (by simp) (by omega)).trans n1
  have k1 := lt_of_block m1
  have j1a : w.heap.size < x1.heap.size := by omega
  have j1b : w.heap.size + 1 < x1.heap.size := by omega
  have j1c : w.heap.size + 1 + 1 < x1.heap.size := by omega
  obtain ⟨t1_0, t1_1, t1_2, t1_3, t1_4, t1_5⟩ := blk_cells q1'.t
  obtain ⟨u1_0, u1_1, u1_2, u1_3, u1_4, u1_5⟩ := blk_cells q1'.u
  obtain ⟨m1_0, m1_1, m1_2, m1_3, m1_4, m1_5⟩ := blk_cells m1
  obtain ⟨n1_0, n1_1, n1_2, n1_3, n1_4, n1_5⟩ := blk_cells n1'
  have G1 := hid q1'
  have M1 := hid m1
  clear q0 q1 p1 n1 ad1 q1' n1' m1
  go_wp2_with fail
  refine (zadd x1.heap.size s0 s1 s2 s3 s4 s5 (wrap64 (-a6)) (wrap64 (-a7)) (wrap64 (-a8)) (wrap64 (-a9)) (wrap64 (-a10)) (wrap64 (-a11)) a0 a1 a2 a3 a4 a5 _ (by simpa [blk] using new_blk x1 s0 s1 s2 s3 s4 s5) HB.out.1 HB.out.2.1 HB.out.2.2.1 HB.out.2.2.2.1 HB.out.2.2.2.2.1 HB.out.2.2.2.2.2).mono ?_
  rintro e x2 ⟨rfl, m2, ad2⟩
  have q2 := (G1.out.alloc s0 s1 s2 s3 s4 s5).adds ad2 (by omega)
  have s2' := (ad2.other (w.heap.size + 1 + 1 + 1) (by simp; omega) (by omega)).trans ((Below.heap_alloc x1 _ _ k1).trans M1.out)
  have k2 := lt_of_block m2
  have l2 := lt_of_block s2'
  have j2a : w.heap.size < x2.heap.size := by omega
  have j2b : w.heap.size + 1 < x2.heap.size := by omega
  obtain ⟨t2_0, t2_1, t2_2, t2_3, t2_4, t2_5⟩ := blk_cells q2.t
  obtain ⟨u2_0, u2_1, u2_2, u2_3, u2_4, u2_5⟩ := blk_cells q2.u
  obtain ⟨m2_0, m2_1, m2_2, m2_3, m2_4, m2_5⟩ := blk_cells m2
  have Q2 : Sums w a0 a1 a2 a3 a4 a5 a6 a7 a8 a9 a10 a11 s0 s1 s2 s3 s4 s5 x2 := ⟨q2, s2'⟩
  have G2 := hid Q2
  clear q2 s2' ad2 m2 Q2
  clear t1_0 t1_1 t1_2 t1_3 t1_4 t1_5 u1_0 u1_1 u1_2 u1_3 u1_4 u1_5 m1_0 m1_1 m1_2 m1_3 m1_4 m1_5 n1_0 n1_1 n1_2 n1_3 n1_4 n1_5
  go_wp2_with fail
  refine region_family (Sums w a0 a1 a2 a3 a4 a5 a6 a7 a8 a9 a10 a11 s0 s1 s2 s3 s4 s5) (by kernel_rfl) (by kernel_rfl) G2.out.drew ?_
  refine quiet_one (.agg #[.int .i64 s0, .int .i64 s1, .int .i64 s2, .int .i64 s3, .int .i64 s4, .int .i64 s5]) rfl (fun x hx => ?_) ?_
  · obtain ⟨d0, d1, d2, d3, d4, d5⟩ := blk_cells hx.s
    go_simp
  go_simp
  refine quiet_one (.int .i64 (ck s0 s1 s2 s3 s4 s5)) rfl (fun x hx => ?_) ?_
  · go_simp
    exact (ck_any s0 s1 s2 s3 s4 s5 x).mono fun e y h => ⟨h.1, by rw [h.2]; exact hx.alloc _ _ _ _ _ _⟩
  go_simp
  refine quiet_one (.agg #[.int .i64 a0, .int .i64 a1, .int .i64 a2, .int .i64 a3, .int .i64 a4, .int .i64 a5]) rfl (fun x hx => ?_) ?_
  · obtain ⟨d0, d1, d2, d3, d4, d5⟩ := blk_cells hx.st.t
    go_simp
  go_simp
  refine quiet_one (.int .i64 (ck a0 a1 a2 a3 a4 a5)) rfl (fun x hx => ?_) ?_
  · go_simp
    exact (ck_any a0 a1 a2 a3 a4 a5 x).mono fun e y h => ⟨h.1, by rw [h.2]; exact hx.alloc _ _ _ _ _ _⟩
  go_simp
  refine quiet_one (.agg #[.int .i64 a6, .int .i64 a7, .int .i64 a8, .int .i64 a9, .int .i64 a10, .int .i64 a11]) rfl (fun x hx => ?_) ?_
  · obtain ⟨d0, d1, d2, d3, d4, d5⟩ := blk_cells hx.st.u
    go_simp
  go_simp
  refine quiet_one (.int .i64 (ck a6 a7 a8 a9 a10 a11)) rfl (fun x hx => ?_) ?_
  · go_simp
    exact (ck_any a6 a7 a8 a9 a10 a11 x).mono fun e y h => ⟨h.1, by rw [h.2]; exact hx.alloc _ _ _ _ _ _⟩
  go_simp
  refine quiet_one (.int .i64 (ck s0 s1 s2 s3 s4 s5)) rfl (fun x hx => ?_) ?_
  · go_simp
    rw [IntWalk.i64_left]; exact HK.out
  go_simp
  refine quiet_one (.bool false) rfl (fun x hx => ?_) ?_
  · go_simp
  go_simp
  refine wpQuiet_nil ?_
  intro x3 hx3
  have k3 := hx3.st.size
  have l3 := lt_of_block hx3.s
  have j3a : w.heap.size < x3.heap.size := by omega
  have l3b : w.heap.size + 1 + 1 + 1 < x3.heap.size + 1 := by omega
  have j3b : w.heap.size + 1 < x3.heap.size := by omega
  obtain ⟨t3_0, t3_1, t3_2, t3_3, t3_4, t3_5⟩ := blk_cells hx3.st.t
  obtain ⟨u3_0, u3_1, u3_2, u3_3, u3_4, u3_5⟩ := blk_cells hx3.st.u
  obtain ⟨s3_0, s3_1, s3_2, s3_3, s3_4, s3_5⟩ := blk_cells hx3.s
  have G3 := hid hx3
  clear hx3
  clear t2_0 t2_1 t2_2 t2_3 t2_4 t2_5 u2_0 u2_1 u2_2 u2_3 u2_4 u2_5 m2_0 m2_1 m2_2 m2_3 m2_4 m2_5
  by_cases pt' : part a0 a2 a3 a4 = false
  · go_wp2_with fail
    refine (part_any a0 a1 a2 a3 a4 a5 _).mono ?_
    rintro e x4 ⟨rfl, rfl⟩
    go_wp2_with fail
    go_ret
    exact ⟨rfl, (G3.out.st.alloc _ _ _ _ _ _).grown⟩
  have pt : part a0 a2 a3 a4 = true := by simpa using pt'
  clear pt'
  by_cases pu' : part a6 a8 a9 a10 = false
  · go_wp2_with fail
    refine (part_any a0 a1 a2 a3 a4 a5 _).mono ?_
    rintro e x4 ⟨rfl, rfl⟩
    go_wp2_with fail
    refine (part_any a6 a7 a8 a9 a10 a11 _).mono ?_
    rintro e x5 ⟨rfl, rfl⟩
    go_wp2_with fail
    go_ret
    exact ⟨rfl, ((G3.out.st.alloc _ _ _ _ _ _).alloc _ _ _ _ _ _).grown⟩
  have pu : part a6 a8 a9 a10 = true := by simpa using pu'
  clear pu'
  have ps := HP.out pt pu
  go_wp2_with fail
  refine (part_any a0 a1 a2 a3 a4 a5 _).mono ?_
  rintro e x4 ⟨rfl, rfl⟩
  go_wp2_with fail
  refine (part_any a6 a7 a8 a9 a10 a11 _).mono ?_
  rintro e x5 ⟨rfl, rfl⟩
  go_wp2_with fail
  refine (part_any s0 s1 s2 s3 s4 s5 _).mono ?_
  rintro e x6 ⟨rfl, rfl⟩
  go_wp2_with fail
  go_ret
  exact ⟨rfl, (((G3.out.st.alloc _ _ _ _ _ _).alloc _ _ _ _ _ _).alloc _ _ _ _ _ _).grown⟩

end Go.Proofs.Qxb6623400a
