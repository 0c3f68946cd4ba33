/-
  lwCopyBytes (5), lwCopyStrings (6).
-/
import Derived.Test.Qxb6623328aParts
import Derived.Lib.SliceRun
import Derived.Laws.CopyOwn
namespace Go.Proofs.Qxb6623328a
open Go.RowKit
set_option linter.unusedVariables false

theorem info5 : (Try.prog.info? 5).map (fun i => (i.zero, i.size, i.bytes)) = some (some (.int .u8 0), 1, 1) := by kernel_rfl
theorem size5 : (Try.prog.info? 5).map (·.size) = some 1 := by kernel_rfl
theorem size9 : (Try.prog.info? 9).map (·.size) = some 1 := by kernel_rfl

theorem copyB_nil (w : World) : Calls Try.prog 5 #[.slice none 0 0] w fun e w' => e = .returned (.slice none 0 0) ∧ w' = w := by
  have q22 : ∀ (w : World) (a : Option Addr) (n c n' c' : Nat), (binOp .eql 22 (.slice a n c) (.slice none n' c')).run Try.prog w = .ok (.bool a.isNone) w := fun w a n c n' c' => Lib.run_eql_slice_nil w _ _ a n c n' c' Try.underlying22
  go_enter Try.func5, Try.ntmps5
  go_wp2
  go_ret
  exact ⟨rfl, rfl⟩

theorem copyS_nil (w : World) : Calls Try.prog 6 #[.slice none 0 0] w fun e w' => e = .returned (.slice none 0 0) ∧ w' = w := by
  have q23 : ∀ (w : World) (a : Option Addr) (n c n' c' : Nat), (binOp .eql 23 (.slice a n c) (.slice none n' c')).run Try.prog w = .ok (.bool a.isNone) w := fun w a n c n' c' => Lib.run_eql_slice_nil w _ _ a n c n' c' Try.underlying23
  go_enter Try.func6, Try.ntmps6
  go_wp2
  go_ret
  exact ⟨rfl, rfl⟩

theorem splice_whole {α : Type} (L cs : List α) (h : cs.length = L.length) : splice L 0 cs = cs := by
  simp [splice, h]

/-- The row that 'make' lays. -/
theorem made_row {w w' : World} {base n : Nat} {e : TypeId} {cells : List Value} (h : w'.ownsRow base e 1 (.slice (some ⟨w.heap.size, 0, none⟩) n n) n cells) : w'.heap[w.heap.size]? = some (.cells cells.toArray e (0, 0)) ∧ cells.length = n := by
  obtain ⟨h1, h2 | ⟨g, cap, cur, hv, hg, hh, hn, hm, hs, ht⟩⟩ := h
  · simp at h2
  · simp only [Value.slice.injEq, Option.some.injEq, Addr.mk.injEq] at hv
    obtain ⟨⟨rfl, _⟩, _, rfl⟩ := hv
    refine ⟨?_, by omega⟩
    rw [List.take_of_length_le (by simp; omega)] at ht
    rw [hh, ← ht]

/-- 'copy(c, s)' into a row of the same length that the call has just made. -/
theorem copy_step {w w1 : World} {dT elem : TypeId} {g n sCap : Nat} {ad : Addr} {cur cs : List Value} (hu : Try.prog.underlying dT = some (.slice elem)) (hs : (Try.prog.info? elem).map (·.size) = some 1) (hcl : cs.length = n) (hcur : cur.length = n)
    (hg : w1.heap[g]? = some (.cells cur.toArray elem (0, 0))) (hsrc : ∀ j v, cs[j]? = some v → w1.cell? (ad.add j) = some v) (h1 : ∀ v ∈ cs, v.oneCell' = true) (hb : Below g w w1) :
    ∃ w2, (Builtin.copy_ #[dT, dT] 3 #[.slice (some ⟨g, 0, none⟩) n n, .slice (some ad) n sCap]).run Try.prog w1 = .ok (goInt n) w2 ∧ w2.heap[g]? = some (.cells cs.toArray elem (0, 0)) ∧ Below g w w2 := by
  have h := run_copy_row (P := Try.prog) w1 dT dT 3 elem g 0 n n ad n sCap cur.toArray elem cs hu hs hg (by rw [hcl]; simp) hsrc (by simp; omega) h1
  rw [hcl] at h
  refine ⟨_, h, ?_, below_setRow hb (Nat.le_refl _) _⟩
  have := setRow_heap w1 g _ (cur.toArray.toList.take 0 ++ cs ++ cur.toArray.toList.drop (0 + n)).toArray elem _ hg
  rw [this]
  simp [← hcur]

theorem copyB_any (ad : Addr) (n c : Nat) (zs : List Int) (w : World) (hl : zs.length = n) (hn : n ≤ 1048576) (hc : ∀ j, j < n → w.cell? (ad.add j) = some (.int .u8 (zs.getD j 0))) :
    Calls Try.prog 5 #[.slice (some ad) n c] w fun e w' => e = .returned (.slice (some ⟨w.heap.size, 0, none⟩) n n) ∧ w'.heap[w.heap.size]? = some (.cells (zs.map (Value.int .u8)).toArray 5 (0, 0)) ∧ Below w.heap.size w w' := by
  have qq : ∀ (w : World) (a : Option Addr) (n c n' c' : Nat), (binOp .eql 22 (.slice a n c) (.slice none n' c')).run Try.prog w = .ok (.bool a.isNone) w := fun w a n c n' c' => Lib.run_eql_slice_nil w _ _ a n c n' c' Try.underlying22
  obtain ⟨i0, hi, hz0, hz1, hz2⟩ := info_parts info5
  have HL := hid hl
  have HC := hid hc
  clear hl hc
  obtain ⟨cs, hcs⟩ : ∃ cs, cs = zs.map (Value.int .u8) := ⟨_, rfl⟩
  have hcl : Hid (cs.length = n) := by have := HL.out; rw [hcs]; simpa [Hid] using this
  have hone : Hid (∀ v ∈ cs, v.oneCell' = true) := by
    intro v hv
    rw [hcs] at hv
    obtain ⟨x, _, rfl⟩ := List.mem_map.1 hv
    rfl
  have hsrc : Hid (∀ w1, Below w.heap.size w w1 → ∀ j v, cs[j]? = some v → w1.cell? (ad.add j) = some v) := by
    intro w1 hb j v hj
    have hjn : j < n := by
      have h1 : j < cs.length := by
        rcases Nat.lt_or_ge j cs.length with h | h
        · exact h
        · rw [List.getElem?_eq_none h] at hj; cases hj
      have := hcl.out; omega
    have hold := HC.out j hjn
    rw [hb.cell (World.block_lt_of_cell? w _ hold), hold]
    rw [hcs, List.getElem?_map] at hj
    simpa [List.getD, List.getElem?_eq_getElem (show j < zs.length by have := HL.out; omega)] using hj
  have HCS := hid hcs
  clear hcs
  go_enter Try.func5, Try.ntmps5
  go_wp2_with (first
    | (at_make; refine wpList_make_full _ rfl _ _ 22 rfl w.heap.size 5 i0 (.int .u8 0) 1 Try.underlying22 hi hz0 hz1 .i64 .i64 n n n rfl rfl rfl rfl (by rw [hz2]; omega) (by unfold maxLen; omega) (Nat.le_refl _) ?_; intro w1 hown hgrow; obtain ⟨cur, hcur⟩ : ∃ cur : List Value, w1.heap[w.heap.size]? = some (.cells cur.toArray 5 (0, 0)) ∧ cur.length = n := ⟨_, made_row hown⟩; have HCur := hid hcur; have hB1 := (Below.refl w.heap.size w).grown hgrow (Nat.le_refl _) (fun k hk => by cases hk); obtain ⟨w2, hcp, hg2, hB2⟩ := copy_step (dT := 22) (elem := 5) (sCap := c) Try.underlying22 size5 hcl.out HCur.out.2 HCur.out.1 (hsrc.out _ hB1) hone.out hB1; have HG2 := hid hg2; clear hcur hown hgrow hg2)
    | fail)
  go_ret
  exact ⟨rfl, by rw [HG2.out, HCS.out], by assumption⟩

theorem copyS_any (ad : Addr) (n c : Nat) (ss : List ByteArray) (w : World) (hl : ss.length = n) (hn : n ≤ 1048576) (hc : ∀ j, j < n → w.cell? (ad.add j) = some (.string (ss.getD j ByteArray.empty))) :
    Calls Try.prog 6 #[.slice (some ad) n c] w fun e w' => e = .returned (.slice (some ⟨w.heap.size, 0, none⟩) n n) ∧ w'.heap[w.heap.size]? = some (.cells (ss.map Value.string).toArray 9 (0, 0)) ∧ Below w.heap.size w w' := by
  have qq : ∀ (w : World) (a : Option Addr) (n c n' c' : Nat), (binOp .eql 23 (.slice a n c) (.slice none n' c')).run Try.prog w = .ok (.bool a.isNone) w := fun w a n c n' c' => Lib.run_eql_slice_nil w _ _ a n c n' c' Try.underlying23
  obtain ⟨i0, hi, hz0, hz1, hz2⟩ := info_parts info9
  have HL := hid hl
  have HC := hid hc
  clear hl hc
  obtain ⟨cs, hcs⟩ : ∃ cs, cs = ss.map Value.string := ⟨_, rfl⟩
  have hcl : Hid (cs.length = n) := by have := HL.out; rw [hcs]; simpa [Hid] using this
  have hone : Hid (∀ v ∈ cs, v.oneCell' = true) := by
    intro v hv
    rw [hcs] at hv
    obtain ⟨x, _, rfl⟩ := List.mem_map.1 hv
    rfl
  have hsrc : Hid (∀ w1, Below w.heap.size w w1 → ∀ j v, cs[j]? = some v → w1.cell? (ad.add j) = some v) := by
    intro w1 hb j v hj
    have hjn : j < n := by
      have h1 : j < cs.length := by
        rcases Nat.lt_or_ge j cs.length with h | h
        · exact h
        · rw [List.getElem?_eq_none h] at hj; cases hj
      have := hcl.out; omega
    have hold := HC.out j hjn
    rw [hb.cell (World.block_lt_of_cell? w _ hold), hold]
    rw [hcs, List.getElem?_map] at hj
    simpa [List.getD, List.getElem?_eq_getElem (show j < ss.length by have := HL.out; omega)] using hj
  have HCS := hid hcs
  clear hcs
  go_enter Try.func6, Try.ntmps6
  go_wp2_with (first
    | (at_make; refine wpList_make_full _ rfl _ _ 23 rfl w.heap.size 9 i0 (.string ByteArray.empty) 1 Try.underlying23 hi hz0 hz1 .i64 .i64 n n n rfl rfl rfl rfl (by rw [hz2]; omega) (by unfold maxLen; omega) (Nat.le_refl _) ?_; intro w1 hown hgrow; obtain ⟨cur, hcur⟩ : ∃ cur : List Value, w1.heap[w.heap.size]? = some (.cells cur.toArray 9 (0, 0)) ∧ cur.length = n := ⟨_, made_row hown⟩; have HCur := hid hcur; have hB1 := (Below.refl w.heap.size w).grown hgrow (Nat.le_refl _) (fun k hk => by cases hk); obtain ⟨w2, hcp, hg2, hB2⟩ := copy_step (dT := 23) (elem := 9) (sCap := c) Try.underlying23 size9 hcl.out HCur.out.2 HCur.out.1 (hsrc.out _ hB1) hone.out hB1; have HG2 := hid hg2; clear hcur hown hgrow hg2)
    | fail)
  go_ret
  exact ⟨rfl, by rw [HG2.out, HCS.out], by assumption⟩

end Go.Proofs.Qxb6623328a
