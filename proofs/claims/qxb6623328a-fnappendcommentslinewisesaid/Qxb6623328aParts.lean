/-
  WHAT THE WALKS CARRY: the text's block, the Source's block, and what lies below 'base', as they were, while the list of comments grows.
-/
import Derived.Test.Qxb6623328aEnd
namespace Go.Proofs.Qxb6623328a
open Go.RowKit

theorem hid {p : Prop} (h : p) : Hid p := h

/-- A block that is no row of strings stays as it was behind an append to a row of strings. -/
theorem block_grown {w w' : World} {base m : Nat} {v : Value} {xs : List Value} {k : Nat} {o : Obj} (hown : w.ownsRow base 9 1 v m xs) (hg : w.grownBy w' v.ownBlock) (hk : w.heap[k]? = some o)
    (ho : ∀ cur, o ≠ .cells cur 9 (0, 0)) : w'.heap[k]? = some o := by
  refine (hg.block k (lt_of_block hk) ?_).trans hk
  intro e
  obtain ⟨_, h | ⟨g, cap, cur, rfl, _, hh, _⟩⟩ := hown
  · rw [h.1] at e; simp [Value.ownBlock] at e
  · simp only [Value.ownBlock, Option.some.injEq] at e
    subst e
    rw [hk] at hh
    exact ho cur (Option.some.inj hh)

/-- The text lies in block tb: n bytes. -/
structure Txt (tb n : Nat) (zs : List Int) (w : World) : Prop where
  ex : ∃ TC, w.heap[tb]? = some (.cells TC 5 (0, 0)) ∧ ∀ j, j < n → TC[j]? = some (.int .u8 (zs.getD j 0))

theorem Txt.cell {tb n : Nat} {zs : List Int} {w : World} (h : Txt tb n zs w) : ∀ j, j < n → w.cell? ⟨tb, j, none⟩ = some (.int .u8 (zs.getD j 0)) := by
  obtain ⟨TC, h1, h2⟩ := h.ex
  intro j hj
  simp [World.cell?, h1, h2 j hj]

theorem Txt.alloc {tb n : Nat} {zs : List Int} {w : World} (h : Txt tb n zs w) (o : Obj) : Txt tb n zs (w.alloc o) := by
  obtain ⟨TC, h1, h2⟩ := h.ex
  exact ⟨TC, (Below.heap_alloc w o tb (lt_of_block h1)).trans h1, h2⟩

theorem Txt.grown {tb n : Nat} {zs : List Int} {w w' : World} (h : Txt tb n zs w) {base m : Nat} {v : Value} {xs : List Value} (hown : w.ownsRow base 9 1 v m xs) (hg : w.grownBy w' v.ownBlock) : Txt tb n zs w' := by
  obtain ⟨TC, h1, h2⟩ := h.ex
  exact ⟨TC, block_grown hown hg h1 (fun cur e => by simp at e), h2⟩

theorem Txt.lt {tb n : Nat} {zs : List Int} {w : World} (h : Txt tb n zs w) : tb < w.heap.size := by
  obtain ⟨TC, h1, _⟩ := h.ex
  exact lt_of_block h1

theorem Txt.below {tb n : Nat} {zs : List Int} {w w' : World} (h : Txt tb n zs w) {B : Nat} (hb : Below B w w') (hB : tb < B) : Txt tb n zs w' := by
  obtain ⟨TC, h1, h2⟩ := h.ex
  exact ⟨TC, (hb.block tb hB).trans h1, h2⟩

/-- The Source lies in block sb; its first field is the value tv. -/
structure Src (sb : Nat) (tv : Value) (w : World) : Prop where
  ex : ∃ SC, w.heap[sb]? = some (.cells SC 32 (0, 0)) ∧ SC[0]? = some tv

theorem Src.cell {sb : Nat} {tv : Value} {w : World} (h : Src sb tv w) : w.cell? ⟨sb, 0, none⟩ = some tv := by
  obtain ⟨SC, h1, h2⟩ := h.ex
  simp [World.cell?, h1, h2]

theorem Src.alloc {sb : Nat} {tv : Value} {w : World} (h : Src sb tv w) (o : Obj) : Src sb tv (w.alloc o) := by
  obtain ⟨SC, h1, h2⟩ := h.ex
  exact ⟨SC, (Below.heap_alloc w o sb (lt_of_block h1)).trans h1, h2⟩

theorem Src.grown {sb : Nat} {tv : Value} {w w' : World} (h : Src sb tv w) {base m : Nat} {v : Value} {xs : List Value} (hown : w.ownsRow base 9 1 v m xs) (hg : w.grownBy w' v.ownBlock) : Src sb tv w' := by
  obtain ⟨SC, h1, h2⟩ := h.ex
  exact ⟨SC, block_grown hown hg h1 (fun cur e => by simp at e), h2⟩

/-- 'string(text[p:e])'. -/
theorem conv {w : World} {tb n c p e : Nat} {zs : List Int} (h : Txt tb n zs w) (hl : zs.length = n) (hp : p ≤ e) (he : e ≤ n) (l : Nat) (hl2 : l = e - p) :
    (convert 22 9 (.slice (some ⟨tb, p, none⟩) l c)).run Try.prog w = .ok (.string (str zs p e)) w := by
  subst hl2
  refine run_convert_bytes_arg w 22 5 Try.underlying22 Try.underlying5 tb p (e - p) c ((zs.take e).drop p) (by simp; omega) (fun i hi => ?_) 9 Try.underlying9
  rw [h.cell (p + i) (by omega)]
  simp [List.getD, List.getElem?_drop, show p + i < e by omega]

theorem info9 : (Try.prog.info? 9).map (fun i => (i.zero, i.size, i.bytes)) = some (some (.string ByteArray.empty), 1, 16) := by kernel_rfl

end Go.Proofs.Qxb6623328a
