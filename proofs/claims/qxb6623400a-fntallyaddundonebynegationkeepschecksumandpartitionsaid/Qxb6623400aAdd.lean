/-
  (*Tally).add (8), ZZTallyAdd (5): the six counts are added, each with Go's wrap; and '==' | '!=' between two tallies of the same six counts.
-/
import Derived.Test.Qxb6623400aRows
import Derived.WalkKit
import Derived.WalkSpells
import Derived.RegionTactic
import Derived.ChangeAlike
import Derived.Laws.StructEq
namespace Go.Proofs.Qxb6623400a
open Go.RowKit
set_option linter.unusedVariables false

theorem hid {p : Prop} (h : p) : Hid p := h

/-- A tally in memory. -/
def blk (x0 x1 x2 x3 x4 x5 : Int) : Obj := .cells #[.int .i64 x0, .int .i64 x1, .int .i64 x2, .int .i64 x3, .int .i64 x4, .int .i64 x5] 23 (0, 0)

theorem blk_cells {w : World} {b : Nat} {x0 x1 x2 x3 x4 x5 : Int} (h : w.heap[b]? = some (blk x0 x1 x2 x3 x4 x5)) :
    w.cell? ⟨b, 0, none⟩ = some (.int .i64 x0) ∧ w.cell? ⟨b, 1, none⟩ = some (.int .i64 x1) ∧ w.cell? ⟨b, 2, none⟩ = some (.int .i64 x2) ∧ w.cell? ⟨b, 3, none⟩ = some (.int .i64 x3) ∧ w.cell? ⟨b, 4, none⟩ = some (.int .i64 x4) ∧ w.cell? ⟨b, 5, none⟩ = some (.int .i64 x5) := by
  simp [World.cell?, h, blk]

theorem blk_free {w : World} {b : Nat} {x0 x1 x2 x3 x4 x5 : Int} (h : w.heap[b]? = some (blk x0 x1 x2 x3 x4 x5)) : ∀ i, w.frozen? ⟨b, i, none⟩ = false := by
  intro i; simp [World.frozen?, h, blk]

/-- What an addition into block b leaves: all other blocks as they were. -/
structure Adds (b : Nat) (w w' : World) : Prop where
  size : w.heap.size ≤ w'.heap.size
  other : ∀ k, k < w.heap.size → k ≠ b → w'.heap[k]? = w.heap[k]?
  grown : ∀ W : World, Grown W w → W.heap.size ≤ b → Grown W w'

/-- Six stores into a tally. -/
def six (w : World) (b : Nat) (r0 r1 r2 r3 r4 r5 : Int) : World :=
  (((((w.setCell ⟨b, 0, none⟩ (.int .i64 r0)).setCell ⟨b, 1, none⟩ (.int .i64 r1)).setCell ⟨b, 2, none⟩ (.int .i64 r2)).setCell ⟨b, 3, none⟩ (.int .i64 r3)).setCell ⟨b, 4, none⟩ (.int .i64 r4)).setCell ⟨b, 5, none⟩ (.int .i64 r5)

theorem six_row (t0 t1 t2 t3 t4 t5 r0 r1 r2 r3 r4 r5 : Value) : ((((((#[t0, t1, t2, t3, t4, t5] : Array Value).setIfInBounds 0 r0).setIfInBounds 1 r1).setIfInBounds 2 r2).setIfInBounds 3 r3).setIfInBounds 4 r4).setIfInBounds 5 r5 = #[r0, r1, r2, r3, r4, r5] := by
  simp

theorem six_heap {w : World} {b : Nat} {t0 t1 t2 t3 t4 t5 : Int} (r0 r1 r2 r3 r4 r5 : Int) (h : w.heap[b]? = some (blk t0 t1 t2 t3 t4 t5)) : (six w b r0 r1 r2 r3 r4 r5).heap[b]? = some (blk r0 r1 r2 r3 r4 r5) := by
  unfold blk at h
  have h0 := heap_setCell_same w b 0 _ 23 (.int .i64 r0) h
  have h1 := heap_setCell_same _ b 1 _ 23 (.int .i64 r1) h0
  have h2 := heap_setCell_same _ b 2 _ 23 (.int .i64 r2) h1
  have h3 := heap_setCell_same _ b 3 _ 23 (.int .i64 r3) h2
  have h4 := heap_setCell_same _ b 4 _ 23 (.int .i64 r4) h3
  have h5 := heap_setCell_same _ b 5 _ 23 (.int .i64 r5) h4
  rw [six_row] at h5
  exact h5

theorem six_size (w : World) (b : Nat) (r0 r1 r2 r3 r4 r5 : Int) : (six w b r0 r1 r2 r3 r4 r5).heap.size = w.heap.size := by
  unfold six; simp

theorem six_other (w : World) (b : Nat) (r0 r1 r2 r3 r4 r5 : Int) (k : Nat) (h : k ≠ b) : (six w b r0 r1 r2 r3 r4 r5).heap[k]? = w.heap[k]? := by
  unfold six
  rw [heap_setCell_other _ _ _ _ h, heap_setCell_other _ _ _ _ h, heap_setCell_other _ _ _ _ h, heap_setCell_other _ _ _ _ h, heap_setCell_other _ _ _ _ h, heap_setCell_other _ _ _ _ h]

theorem six_grown {W w : World} {b : Nat} (r0 r1 r2 r3 r4 r5 : Int) (hg : Grown W w) (hb : W.heap.size ≤ b) : Grown W (six w b r0 r1 r2 r3 r4 r5) :=
  (((((hg.setCell (a := ⟨b, 0, none⟩) hb _).setCell (a := ⟨b, 1, none⟩) hb _).setCell (a := ⟨b, 2, none⟩) hb _).setCell (a := ⟨b, 3, none⟩) hb _).setCell (a := ⟨b, 4, none⟩) hb _).setCell (a := ⟨b, 5, none⟩) hb _

theorem add_end {w : World} {b : Nat} {t0 t1 t2 t3 t4 t5 : Int} (r0 r1 r2 r3 r4 r5 : Int) (h : w.heap[b]? = some (blk t0 t1 t2 t3 t4 t5)) (c : Array Value) (t : TypeId) :
    ((six w b r0 r1 r2 r3 r4 r5).alloc (.cells c t)).drew.drew.drew.drew.drew.drew.heap[b]? = some (blk r0 r1 r2 r3 r4 r5) ∧
    Adds b w ((six w b r0 r1 r2 r3 r4 r5).alloc (.cells c t)).drew.drew.drew.drew.drew.drew := by
  have hlt := lt_of_block h
  have hs := six_size w b r0 r1 r2 r3 r4 r5
  refine ⟨?_, ⟨?_, ?_, ?_⟩⟩
  · show ((six w b r0 r1 r2 r3 r4 r5).alloc (.cells c t)).heap[b]? = _
    rw [Below.heap_alloc _ _ b (by omega)]
    exact six_heap r0 r1 r2 r3 r4 r5 h
  · show w.heap.size ≤ ((six w b r0 r1 r2 r3 r4 r5).alloc (.cells c t)).heap.size
    simp; omega
  · intro k hk hne
    show ((six w b r0 r1 r2 r3 r4 r5).alloc (.cells c t)).heap[k]? = _
    rw [Below.heap_alloc _ _ k (by omega)]
    exact six_other w b r0 r1 r2 r3 r4 r5 k hne
  · intro W hg hb
    exact ((six_grown r0 r1 r2 r3 r4 r5 hg hb).alloc c t).drew.drew.drew.drew.drew.drew

theorem add_any (b : Nat) (t0 t1 t2 t3 t4 t5 u0 u1 u2 u3 u4 u5 : Int) (w : World) (h : w.heap[b]? = some (blk t0 t1 t2 t3 t4 t5)) :
    Calls Try.prog 8 #[.pointer (some ⟨b, 0, none⟩), .agg #[.int .i64 u0, .int .i64 u1, .int .i64 u2, .int .i64 u3, .int .i64 u4, .int .i64 u5]] w fun e w' => e = .returned (.tuple #[]) ∧
      w'.heap[b]? = some (blk (wrap64 (t0 + u0)) (wrap64 (t1 + u1)) (wrap64 (t2 + u2)) (wrap64 (t3 + u3)) (wrap64 (t4 + u4)) (wrap64 (t5 + u5))) ∧ Adds b w w' := by
  have H := hid h
  obtain ⟨c0, c1, c2, c3, c4, c5⟩ := blk_cells h
  have f0 := blk_free h 0
  have f1 := blk_free h 1
  have f2 := blk_free h 2
  have f3 := blk_free h 3
  have f4 := blk_free h 4
  have f5 := blk_free h 5
  have hlt : b < w.heap.size := lt_of_block h
  have hne : b ≠ w.heap.size := by omega
  clear h
  go_enter Try.func8, Try.ntmps8
  go_wp2
  go_region
  go_wp2
  go_region
  go_wp2
  go_region
  go_wp2
  go_region
  go_wp2
  go_region
  go_wp2
  go_region
  go_wp2
  go_end0
  exact ⟨rfl, add_end _ _ _ _ _ _ H.out _ _⟩

theorem Adds.boxed {b : Nat} {w w' : World} {c : Array Value} {t : TypeId} (hb : b < w.heap.size) (h : Adds b (w.alloc (.cells c t)) w') : Adds b w w' :=
  ⟨by have := h.size; simp at this; omega, fun k hk hne => (h.other k (by simp; omega) hne).trans (Below.heap_alloc _ _ _ hk), fun W hg hW => h.grown W (hg.alloc _ _) hW⟩

/-- ZZTallyAdd: the counts r are the sums. -/
theorem zadd (b : Nat) (t0 t1 t2 t3 t4 t5 u0 u1 u2 u3 u4 u5 r0 r1 r2 r3 r4 r5 : Int) (w : World) (h : w.heap[b]? = some (blk t0 t1 t2 t3 t4 t5))
    (e0 : wrap64 (t0 + u0) = r0) (e1 : wrap64 (t1 + u1) = r1) (e2 : wrap64 (t2 + u2) = r2) (e3 : wrap64 (t3 + u3) = r3) (e4 : wrap64 (t4 + u4) = r4) (e5 : wrap64 (t5 + u5) = r5) :
    Calls Try.prog 5 #[.pointer (some ⟨b, 0, none⟩), .agg #[.int .i64 u0, .int .i64 u1, .int .i64 u2, .int .i64 u3, .int .i64 u4, .int .i64 u5]] w fun e w' => e = .returned (.tuple #[]) ∧
      w'.heap[b]? = some (blk r0 r1 r2 r3 r4 r5) ∧ Adds b w w' := by
  subst e0 e1 e2 e3 e4 e5
  have hlt : b < w.heap.size := lt_of_block h
  have hc := hid (add_any b t0 t1 t2 t3 t4 t5 u0 u1 u2 u3 u4 u5 (w.alloc (.cells #[.int .i64 u0, .int .i64 u1, .int .i64 u2, .int .i64 u3, .int .i64 u4, .int .i64 u5] 23)) ((Below.heap_alloc _ _ b hlt).trans h))
  clear h
  go_enter Try.func5, Try.ntmps5
  go_wp2_with (go_at_call 8; refine hc.out.mono ?_; rintro e w' ⟨rfl, h1, h2⟩)
  go_end0
  exact ⟨rfl, by assumption, Adds.boxed hlt (by assumption)⟩

/-! ### '==' and '!=' between two tallies -/
theorem guard23 (op : BinOp) (x y : Operand) (xs ys : Array Value) (w : World) : (eqGuard op 23 x y (.agg xs) (.agg ys)).run Try.prog w = .ok () w :=
  run_eqGuard_agg w op 23 x y xs ys (by kernel_rfl)

theorem equal23 (x0 x1 x2 x3 x4 x5 : Int) (w : World) :
    (Op.equalIn 10000 23 (.agg #[.int .i64 x0, .int .i64 x1, .int .i64 x2, .int .i64 x3, .int .i64 x4, .int .i64 x5]) (.agg #[.int .i64 x0, .int .i64 x1, .int .i64 x2, .int .i64 x3, .int .i64 x4, .int .i64 x5])).run Try.prog w = .ok true w := by
  have u3 := Try.underlying3
  have a3 := Try.isAgg3
  have z3 := Try.sizeOf3
  have hS : Try.prog.underlying 23 = some (.struct (Try.prog.fieldsOf 23)) := by kernel_rfl
  have hp : Try.prog.stoodInHeld 23 = false := by kernel_rfl
  rw [show (10000 : Nat) = 9999 + 1 from rfl, run_equalIn_agg w 9999 23 _ _ hS hp]
  simp only [Program.fieldsOf, Try.underlying23]
  go_simp

theorem eql23 (x0 x1 x2 x3 x4 x5 : Int) (w : World) :
    (binOp .eql 23 (.agg #[.int .i64 x0, .int .i64 x1, .int .i64 x2, .int .i64 x3, .int .i64 x4, .int .i64 x5]) (.agg #[.int .i64 x0, .int .i64 x1, .int .i64 x2, .int .i64 x3, .int .i64 x4, .int .i64 x5])).run Try.prog w = .ok (.bool true) w := by
  rw [run_eql_struct, equal23]
  rfl

theorem neq23 (x0 x1 x2 x3 x4 x5 : Int) (w : World) :
    (binOp .neq 23 (.agg #[.int .i64 x0, .int .i64 x1, .int .i64 x2, .int .i64 x3, .int .i64 x4, .int .i64 x5]) (.agg #[.int .i64 x0, .int .i64 x1, .int .i64 x2, .int .i64 x3, .int .i64 x4, .int .i64 x5])).run Try.prog w = .ok (.bool false) w := by
  rw [run_neq_struct, equal23]
  rfl

end Go.Proofs.Qxb6623400a
