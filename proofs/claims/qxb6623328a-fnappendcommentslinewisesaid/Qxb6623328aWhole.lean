/-
  THE CALLEES' CONTRACTS, nil slices and all, in one form each: what the law's walk takes at each call.
-/
import Derived.Test.Qxb6623328aLine
import Derived.Test.Qxb6623328aCopy
import Derived.Test.Qxb6623328aBytes
namespace Go.Proofs.Qxb6623328a
open Go.RowKit

/-- A slice of bytes that came in. -/
def ArgB (ad : Option Addr) (n c : Nat) (zs : List Int) (w : World) : Prop :=
  (ad = none ∧ n = 0 ∧ c = 0) ∨ ∃ a, ad = some a ∧ ∀ j, j < n → w.cell? (a.add j) = some (.int .u8 (zs.getD j 0))

/-- A slice of strings that came in. -/
def ArgS (ad : Option Addr) (m c : Nat) (ss : List ByteArray) (w : World) : Prop :=
  (ad = none ∧ m = 0 ∧ c = 0) ∨ ∃ a, ad = some a ∧ ∀ j, j < m → w.cell? (a.add j) = some (.string (ss.getD j ByteArray.empty))

theorem ArgB.below {ad : Option Addr} {n c : Nat} {zs : List Int} {w w' : World} (h : ArgB ad n c zs w) (hb : Below w.heap.size w w') : ArgB ad n c zs w' := by
  rcases h with h | ⟨a, ha, hc⟩
  · exact .inl h
  · exact .inr ⟨a, ha, fun j hj => (hb.cell (World.block_lt_of_cell? w _ (hc j hj))).trans (hc j hj)⟩

theorem ArgS.below {ad : Option Addr} {m c : Nat} {ss : List ByteArray} {w w' : World} (h : ArgS ad m c ss w) (hb : Below w.heap.size w w') : ArgS ad m c ss w' := by
  rcases h with h | ⟨a, ha, hc⟩
  · exact .inl h
  · exact .inr ⟨a, ha, fun j hj => (hb.cell (World.block_lt_of_cell? w _ (hc j hj))).trans (hc j hj)⟩

/-- A copy of the text: nil or in a block of its own. -/
def Text (ta : Option Addr) (n tc : Nat) (zs : List Int) (w : World) : Prop := 0 < n → ∃ g, ta = some ⟨g, 0, none⟩ ∧ Txt g n zs w ∧ n ≤ tc

theorem copyB_all {ad : Option Addr} {n c : Nat} {zs : List Int} {w : World} (h : ArgB ad n c zs w) (hl : zs.length = n) (hn : n ≤ 1048576) :
    Calls Try.prog 5 #[.slice ad n c] w fun e w' => ∃ ta tc, e = .returned (.slice ta n tc) ∧ Text ta n tc zs w' ∧ Below w.heap.size w w' := by
  rcases h with ⟨rfl, rfl, rfl⟩ | ⟨a, rfl, hc⟩
  · refine (copyB_nil w).mono fun e w' h => ⟨none, 0, h.1, fun h => by omega, ?_⟩
    rw [h.2]; exact Below.refl _ _
  · refine (copyB_any a n c zs w hl hn hc).mono fun e w' h => ⟨_, _, h.1, fun _ => ⟨_, rfl, ⟨_, h.2.1, fun j hj => ?_⟩, Nat.le_refl _⟩, h.2.2⟩
    simp [List.getD, List.getElem?_eq_getElem (show j < zs.length by omega)]

theorem copyS_all {ad : Option Addr} {m c : Nat} {ss : List ByteArray} {w : World} (h : ArgS ad m c ss w) (hl : ss.length = m) (hm : m ≤ 1048576) :
    Calls Try.prog 6 #[.slice ad m c] w fun e w' => ∃ v, e = .returned v ∧ w'.ownsRow w.heap.size 9 1 v m (ss.map Value.string) ∧ Below w.heap.size w w' := by
  rcases h with ⟨rfl, rfl, rfl⟩ | ⟨a, rfl, hc⟩
  · refine (copyS_nil w).mono fun e w' h => ⟨_, h.1, ?_, ?_⟩
    · obtain rfl : ss = [] := List.eq_nil_of_length_eq_zero hl
      exact World.ownsRow_nil _ _ _ _
    · rw [h.2]; exact Below.refl _ _
  · refine (copyS_any a m c ss w hl hm hc).mono fun e w' h => ⟨_, h.1, ⟨by simp [hl], .inr ⟨_, _, _, rfl, Nat.le_refl _, h.2.1, Nat.le_refl _, by unfold maxLen; omega, by simp [hl], ?_⟩⟩, h.2.2⟩
    rw [List.take_of_length_le (by simp [hl])]

theorem ownsRow_below {w w' : World} {base : Nat} {e : TypeId} {size : Nat} {v : Value} {n : Nat} {xs : List Value} {B : Nat} (h : w.ownsRow base e size v n xs) (hb : Below B w w') (hB : w.heap.size ≤ B) : w'.ownsRow base e size v n xs := by
  obtain ⟨h1, h2 | ⟨g, cap, cur, hv, hg, hh, r⟩⟩ := h
  · exact ⟨h1, .inl h2⟩
  · exact ⟨h1, .inr ⟨g, cap, cur, hv, hg, (hb.block g (by have := lt_of_block hh; omega)).trans hh, r⟩⟩

theorem Text.below {ta : Option Addr} {n tc : Nat} {zs : List Int} {w w' : World} {B : Nat} (h : Text ta n tc zs w) (hb : Below B w w') (hB : w.heap.size ≤ B) : Text ta n tc zs w' := by
  intro hn
  obtain ⟨g, h1, h2, h3⟩ := h hn
  exact ⟨g, h1, h2.below hb (by have := h2.lt; omega), h3⟩

theorem app_all {ta : Option Addr} {n tc : Nat} {zs : List Int} {v : Value} {m base : Nat} {S : List ByteArray} {frm to : Int} {w : World} (hT : Text ta n tc zs w) (hl : zs.length = n) (hn : n ≤ 1048576) (hf : 0 ≤ frm) (hto : to ≤ n) (hm : m ≤ 1048576) (hS : S.length = m)
    (hown : w.ownsRow base 9 1 v m (S.map Value.string)) (hbase : base ≤ w.heap.size) :
    Calls Try.prog 7 #[.slice ta n tc, v, .int .i64 frm, .int .i64 to] w fun e w' => ∃ v', e = .returned v' ∧ w'.ownsRow base 9 1 v' (m + (G zs to.toNat frm.toNat).length) ((S ++ G zs to.toNat frm.toNat).map Value.string) ∧ Below base w w' := by
  by_cases h : to ≤ frm
  · rw [G_stop zs to.toNat frm.toNat (by omega)]
    exact (zapp_none ta n tc v frm to h w).mono fun e w' h => ⟨v, h.1, by simpa using ownsRow_below hown h.2 (Nat.le_refl _), h.2.mono hbase⟩
  · obtain ⟨f, rfl⟩ : ∃ f : Nat, frm = f := ⟨frm.toNat, by omega⟩
    obtain ⟨t, rfl⟩ : ∃ t : Nat, to = t := ⟨to.toNat, by omega⟩
    obtain ⟨g, rfl, hX, hc⟩ := hT (by omega)
    exact zapp_any g n tc f t m base zs S v w hl hn hc (by omega) (by omega) hm hS hown hbase hX

theorem line_all {ta : Option Addr} {n tc : Nat} {zs : List Int} {v : Value} {m base : Nat} {S : List ByteArray} {frm to : Int} {w : World} (hT : Text ta n tc zs w) (hl : zs.length = n) (hn : n ≤ 1048576) (hf : 0 ≤ frm) (hto : to ≤ n) (hm : m ≤ 1048576) (hS : S.length = m)
    (hown : w.ownsRow base 9 1 v m (S.map Value.string)) (hbase : base ≤ w.heap.size) :
    Calls Try.prog 8 #[v, .slice ta n tc, .int .i64 frm, .int .i64 to] w fun e w' => ∃ v', e = .returned v' ∧ w'.ownsRow base 9 1 v' (m + (G zs to.toNat frm.toNat).length) ((S ++ G zs to.toNat frm.toNat).map Value.string) ∧ Below base w w' := by
  by_cases h : to ≤ 0
  · rw [G_stop zs to.toNat frm.toNat (by omega)]
    exact (line_none ta n tc v frm to h w hn).mono fun e w' h => ⟨v, h.1, by rw [h.2]; simpa using hown, by rw [h.2]; exact Below.refl _ _⟩
  · obtain ⟨f, rfl⟩ : ∃ f : Nat, frm = f := ⟨frm.toNat, by omega⟩
    obtain ⟨t, rfl⟩ : ∃ t : Nat, to = t := ⟨to.toNat, by omega⟩
    obtain ⟨g, rfl, hX, hc⟩ := hT (by omega)
    exact line_any g n tc f t m base zs S v w hl hn hc (by omega) hm hS hown hbase hX

/-- A list of strings in memory, to be read. -/
def List9 (v : Value) (L : Nat) (xs : List ByteArray) (w : World) : Prop :=
  ∃ ao cap, v = .slice ao L cap ∧ (0 < L → ∃ g, ao = some ⟨g, 0, none⟩ ∧ ∀ j, j < L → w.cell? ⟨g, j, none⟩ = some (.string (xs.getD j ByteArray.empty)))

theorem List9.of {w : World} {base : Nat} {v : Value} {L : Nat} {xs : List ByteArray} (h : w.ownsRow base 9 1 v L (xs.map Value.string)) : List9 v L xs w := by
  have h0 := h
  obtain ⟨h1, ⟨rfl, rfl⟩ | ⟨g, cap, cur, rfl, hg, hh, hn, hm, hs, ht⟩⟩ := h
  · exact ⟨none, 0, rfl, fun h => by omega⟩
  · refine ⟨_, cap, rfl, fun _ => ⟨g, rfl, fun j hj => ?_⟩⟩
    have hx : j < xs.length := by simp at h1; omega
    have := h0.cells (g := g) rfl j (.string (xs.getD j ByteArray.empty)) (by simp [List.getD, List.getElem?_eq_getElem hx])
    have e : (⟨g, 0, none⟩ : Addr).add j = ⟨g, j, none⟩ := by unfold Addr.add; split <;> simp_all
    rw [e] at this; exact this

end Go.Proofs.Qxb6623328a
