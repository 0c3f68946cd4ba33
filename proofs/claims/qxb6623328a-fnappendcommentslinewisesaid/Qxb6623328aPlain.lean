/-
  THE PLAIN LAW: no Go in sight. 'bw zs i': the width of the line break that begins at place i of the bytes zs. 'IsEnd zs i e': e is the first place from i on where a break begins, or the end. 'scan': the comments from place i on.
-/
import Derived.Laws.BytesArg
namespace Go.Proofs.Qxb6623328a

/-- The width of the line break that begins at place i, or nought. -/
def bw (zs : List Int) (i : Nat) : Nat :=
  if zs.getD i 0 = 10 then 1
  else if zs.getD i 0 = 13 ∧ i + 1 < zs.length ∧ zs.getD (i + 1) 0 = 10 then 2
  else if zs.getD i 0 = 13 then 1
  else if zs.getD i 0 = 194 ∧ i + 1 < zs.length ∧ zs.getD (i + 1) 0 = 133 then 2
  else if zs.getD i 0 = 226 ∧ i + 2 < zs.length ∧ zs.getD (i + 1) 0 = 128 ∧ (zs.getD (i + 2) 0 = 168 ∨ zs.getD (i + 2) 0 = 169) then 3
  else 0

theorem bw_le (zs : List Int) (i : Nat) : bw zs i ≤ 3 := by
  unfold bw
  repeat' split
  all_goals omega

/-- A break ends inside the text. -/
theorem bw_in (zs : List Int) (i : Nat) (h : i < zs.length) : i + bw zs i ≤ zs.length := by
  unfold bw
  repeat' split
  all_goals omega

/-- No byte of a break is '#'. -/
theorem bw_hash (zs : List Int) (i j : Nat) (h1 : i ≤ j) (h2 : j < i + bw zs i) : zs.getD j 0 ≠ 35 := by
  unfold bw at h2
  have hj : j = i ∨ j = i + 1 ∨ j = i + 2 := by
    revert h2
    repeat' split
    all_goals omega
  revert h2
  repeat' split
  all_goals intro h2
  all_goals rcases hj with rfl | rfl | rfl
  all_goals omega

/-- e is the first place from i on where a break begins, or the end of the text. -/
structure IsEnd (zs : List Int) (i e : Nat) : Prop where
  lo : i ≤ e
  hi : e ≤ zs.length
  none : ∀ j, i ≤ j → j < e → bw zs j = 0
  stop : e < zs.length → bw zs e ≠ 0

theorem IsEnd.unique {zs : List Int} {i e e' : Nat} (h : IsEnd zs i e) (h' : IsEnd zs i e') : e = e' := by
  rcases Nat.lt_trichotomy e e' with hl | rfl | hl
  · exact absurd (h'.none e h.lo hl) (h.stop (by have := h'.hi; omega))
  · rfl
  · exact absurd (h.none e' h'.lo hl) (h'.stop (by have := h.hi; omega))

theorem IsEnd.later {zs : List Int} {i j e : Nat} (h : IsEnd zs i e) (h1 : i ≤ j) (h2 : j ≤ e) : IsEnd zs j e :=
  ⟨h2, h.hi, fun k hk hk2 => h.none k (by omega) hk2, h.stop⟩

theorem IsEnd.step {zs : List Int} {i j : Nat} (hj : j ≤ zs.length) (hij : i ≤ j) (hn : ∀ k, i ≤ k → k < j → bw zs k = 0) (hs : j < zs.length → bw zs j ≠ 0) : IsEnd zs i j := ⟨hij, hj, hn, hs⟩

/-- The end of the line from place i on, by steps. -/
def le (zs : List Int) : Nat → Nat → Nat
  | 0, i => i
  | f + 1, i => if i < zs.length ∧ bw zs i = 0 then le zs f (i + 1) else i

theorem le_isEnd (zs : List Int) : ∀ (f i : Nat), i ≤ zs.length → zs.length ≤ i + f → IsEnd zs i (le zs f i)
  | 0, i, h1, h2 => ⟨Nat.le_refl _, h1, fun j a b => by simp [le] at b; omega, fun h => by simp [le] at h; omega⟩
  | f + 1, i, h1, h2 => by
    unfold le
    split
    · rename_i hc
      have ih := le_isEnd zs f (i + 1) (by omega) (by omega)
      refine ⟨by have := ih.lo; omega, ih.hi, fun j a b => ?_, ih.stop⟩
      rcases Nat.lt_or_ge i j with hlt | hge
      · exact ih.none j (by omega) b
      · have : j = i := by omega
        subst this; exact hc.2
    · rename_i hc
      refine ⟨Nat.le_refl _, h1, fun j a b => by omega, fun h hb => hc ⟨h, hb⟩⟩

/-- The end of the line that holds place i. -/
def lend (zs : List Int) (i : Nat) : Nat := le zs zs.length i

theorem lend_isEnd (zs : List Int) (i : Nat) (h : i ≤ zs.length) : IsEnd zs i (lend zs i) := le_isEnd zs _ i h (by omega)

theorem lend_of {zs : List Int} {i e : Nat} (h : IsEnd zs i e) : lend zs i = e := (lend_isEnd zs i (by have := h.lo; have := h.hi; omega)).unique h

/-- The bytes from p up to e, as a string. -/
def str (zs : List Int) (p e : Nat) : ByteArray := strOfNums ((zs.take e).drop p)

/-- The comments from place i on, up to 'to', by steps. -/
def scan (zs : List Int) (to : Nat) : Nat → Nat → List ByteArray
  | 0, _ => []
  | f + 1, i => if i < to then (if zs.getD i 0 = 35 then str zs i (lend zs i) :: scan zs to f (lend zs i + 1) else scan zs to f (i + 1)) else []

theorem scan_fuel (zs : List Int) (to : Nat) (hto : to ≤ zs.length) : ∀ (f f' i : Nat), to ≤ i + f → to ≤ i + f' → scan zs to f i = scan zs to f' i
  | 0, 0, _, _, _ => rfl
  | 0, f' + 1, i, h, h' => by
    simp only [scan]
    rw [if_neg (by omega)]
  | f + 1, 0, i, h, h' => by
    simp only [scan]
    rw [if_neg (by omega)]
  | f + 1, f' + 1, i, h, h' => by
    simp only [scan]
    by_cases c : i < to
    · rw [if_pos c, if_pos c]
      by_cases d : zs.getD i 0 = 35
      · rw [if_pos d, if_pos d]
        have := (lend_isEnd zs i (by omega)).lo
        rw [scan_fuel zs to hto f f' (lend zs i + 1) (by omega) (by omega)]
      · rw [if_neg d, if_neg d, scan_fuel zs to hto f f' (i + 1) (by omega) (by omega)]
    · rw [if_neg c, if_neg c]

/-- The comments from place i on, up to 'to'. -/
def G (zs : List Int) (to i : Nat) : List ByteArray := scan zs to to i

theorem G_stop (zs : List Int) (to i : Nat) (h : to ≤ i) : G zs to i = [] := by
  unfold G
  cases to with
  | zero => rfl
  | succ t => simp only [scan]; rw [if_neg (by omega)]

theorem G_hash (zs : List Int) (to i : Nat) (hto : to ≤ zs.length) (h : i < to) (hh : zs.getD i 0 = 35) : G zs to i = str zs i (lend zs i) :: G zs to (lend zs i + 1) := by
  have e : scan zs to to i = scan zs to (to + 1) i := scan_fuel zs to hto _ _ _ (by omega) (by omega)
  unfold G
  rw [e, scan, if_pos h, if_pos hh]

theorem G_skip (zs : List Int) (to i : Nat) (hto : to ≤ zs.length) (h : i < to) (hh : zs.getD i 0 ≠ 35) : G zs to i = G zs to (i + 1) := by
  have e : scan zs to to i = scan zs to (to + 1) i := scan_fuel zs to hto _ _ _ (by omega) (by omega)
  unfold G
  rw [e, scan, if_pos h, if_neg hh]

/-- Where no '#' stands, nothing is gathered. -/
theorem G_over (zs : List Int) (to : Nat) (hto : to ≤ zs.length) : ∀ (d u : Nat), (∀ j, u ≤ j → j < u + d → j < to → zs.getD j 0 ≠ 35) → G zs to u = G zs to (u + d)
  | 0, u, _ => rfl
  | d + 1, u, h => by
    by_cases c : u < to
    · rw [G_skip zs to u hto c (h u (Nat.le_refl _) (by omega) c), G_over zs to hto d (u + 1) (fun j a b c => h j (by omega) (by omega) c)]
      congr 1; omega
    · rw [G_stop zs to u (by omega), G_stop zs to (u + (d + 1)) (by omega)]

theorem G_to (zs : List Int) (to u v : Nat) (hto : to ≤ zs.length) (huv : u ≤ v) (h : ∀ j, u ≤ j → j < v → j < to → zs.getD j 0 ≠ 35) : G zs to u = G zs to v := by
  have := G_over zs to hto (v - u) u (fun j a b c => h j a (by omega) c)
  rw [this]; congr 1; omega

theorem scan_len (zs : List Int) (to : Nat) (hto : to ≤ zs.length) : ∀ (f i : Nat), (scan zs to f i).length ≤ to - i
  | 0, _ => by simp [scan]
  | f + 1, i => by
    simp only [scan]
    by_cases c : i < to
    · rw [if_pos c]
      by_cases d : zs.getD i 0 = 35
      · rw [if_pos d]
        have := (lend_isEnd zs i (by omega)).lo
        have := scan_len zs to hto f (lend zs i + 1)
        simp only [List.length_cons]; omega
      · rw [if_neg d]
        have := scan_len zs to hto f (i + 1)
        omega
    · rw [if_neg c]; simp

theorem G_len (zs : List Int) (to i : Nat) (hto : to ≤ zs.length) : (G zs to i).length ≤ to - i := scan_len zs to hto _ _

/-- A LINE WITH A COMMENT: a line from a to its end b; p is the first '#' in it from u on, u ≥ a. -/
theorem G_line_hit (zs : List Int) (to a b u p : Nat) (hto : to ≤ zs.length) (hb : IsEnd zs a b) (hau : a ≤ u) (hup : u ≤ p) (hpb : p < b) (hpt : p < to) (hh : zs.getD p 0 = 35)
    (hno : ∀ j, u ≤ j → j < p → zs.getD j 0 ≠ 35) : G zs to u = str zs p b :: G zs to (b + bw zs b) := by
  rw [G_to zs to u p hto hup (fun j h1 h2 _ => hno j h1 h2), G_hash zs to p hto hpt hh, lend_of (hb.later (by omega) (by omega))]
  congr 1
  by_cases hbl : b < zs.length
  · have hs := hb.stop hbl
    exact G_to zs to (b + 1) (b + bw zs b) hto (by omega) (fun j h1 h2 _ => bw_hash zs b j (by omega) h2)
  · rw [G_stop zs to _ (by omega), G_stop zs to _ (by have := hb.hi; omega)]

/-- A LINE WITHOUT ONE: no '#' from u on up to the line's end. -/
theorem G_line_miss (zs : List Int) (to a b u frm : Nat) (hto : to ≤ zs.length) (_hb : IsEnd zs a b) (hu : u = max a frm)
    (hno : ∀ j, u ≤ j → j < b → j < to → zs.getD j 0 ≠ 35) (hab : a ≤ b) : G zs to u = G zs to (max (b + bw zs b) frm) := by
  refine G_to zs to u _ hto (by omega) (fun j h1 h2 h3 => ?_)
  rcases Nat.lt_or_ge j b with h | h
  · exact hno j h1 h h3
  · exact bw_hash zs b j h (by omega)

end Go.Proofs.Qxb6623328a
