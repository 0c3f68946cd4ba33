/-
  What both laws' walks carry: t and u in their blocks.
-/
import Derived.Test.Qxb6623400aAdd
namespace Go.Proofs.Qxb6623400a
open Go.RowKit
set_option linter.unusedVariables false

/-- What stands all along: t in block B, u in block B + 1; of what was there nothing has turned. -/
structure St (w : World) (t0 t1 t2 t3 t4 t5 u0 u1 u2 u3 u4 u5 : Int) (x : World) : Prop where
  t : x.heap[w.heap.size]? = some (blk t0 t1 t2 t3 t4 t5)
  u : x.heap[w.heap.size + 1]? = some (blk u0 u1 u2 u3 u4 u5)
  grown : Grown w x
  size : w.heap.size + 1 + 1 ≤ x.heap.size

theorem St.two (w : World) (t0 t1 t2 t3 t4 t5 u0 u1 u2 u3 u4 u5 : Int) :
    St w t0 t1 t2 t3 t4 t5 u0 u1 u2 u3 u4 u5 ((w.alloc (blk t0 t1 t2 t3 t4 t5)).alloc (blk u0 u1 u2 u3 u4 u5)) := by
  refine ⟨?_, ?_, ?_, by simp⟩
  · exact (Below.heap_alloc _ _ _ (by simp)).trans (heap_alloc_new w _)
  · have := heap_alloc_new (w.alloc (blk t0 t1 t2 t3 t4 t5)) (blk u0 u1 u2 u3 u4 u5)
    simpa using this
  · exact ((Grown.refl w).alloc _ _).alloc _ _

theorem St.alloc {w : World} {t0 t1 t2 t3 t4 t5 u0 u1 u2 u3 u4 u5 : Int} {x : World} (h : St w t0 t1 t2 t3 t4 t5 u0 u1 u2 u3 u4 u5 x) (y0 y1 y2 y3 y4 y5 : Int) : St w t0 t1 t2 t3 t4 t5 u0 u1 u2 u3 u4 u5 (x.alloc (blk y0 y1 y2 y3 y4 y5)) := by
  have hs := h.size
  exact ⟨(Below.heap_alloc _ _ _ (by omega)).trans h.t, (Below.heap_alloc _ _ _ (by omega)).trans h.u, h.grown.alloc _ _, by simp; omega⟩

theorem St.adds {w : World} {t0 t1 t2 t3 t4 t5 u0 u1 u2 u3 u4 u5 : Int} {x y : World} {b : Nat} (h : St w t0 t1 t2 t3 t4 t5 u0 u1 u2 u3 u4 u5 x) (ha : Adds b x y) (hb : w.heap.size + 1 < b) : St w t0 t1 t2 t3 t4 t5 u0 u1 u2 u3 u4 u5 y := by
  have hs := h.size
  have := ha.size
  exact ⟨(ha.other _ (by omega) (by omega)).trans h.t, (ha.other _ (by omega) (by omega)).trans h.u, ha.grown w h.grown (by omega), by omega⟩

/-- The block that has just been laid. -/
theorem new_blk (x : World) (y0 y1 y2 y3 y4 y5 : Int) : (x.alloc (blk y0 y1 y2 y3 y4 y5)).heap[x.heap.size]? = some (blk y0 y1 y2 y3 y4 y5) := heap_alloc_new x _

end Go.Proofs.Qxb6623400a
