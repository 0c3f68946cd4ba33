/-
  appendComments (9), ZZAppendComments (7).
-/
import Derived.Test.Qxb6623328aParts
namespace Go.Proofs.Qxb6623328a
open Go.RowKit
set_option linter.unusedVariables false

/-- Nothing to look at: the list is handed back. -/
theorem app_none (sp : Value) (v : Value) (frm to : Int) (h : to ≤ frm) (w : World) :
    Calls Try.prog 9 #[sp, v, .int .i64 frm, .int .i64 to] w fun e w' => e = .returned v ∧ w' = w := by
  go_enter Try.func9, Try.ntmps9
  go_wp2
  refine wp_loop_rounds 1 ?_
  rw [rounds_succ]
  go_wp2
  go_ret
  exact ⟨rfl, rfl⟩

/-- What a comment does to what is carried. -/
theorem rel_hit {sb tb n c frm to m base k en : Nat} {zs : List Int} {S acc : List ByteArray} {u v' : Value} {w wr w1 : World} {o : Obj} (hto : to ≤ zs.length) (hk : k < to) (he : en = lend zs k) (hx : zs.getD k 0 = 35) (hbase : base ≤ w.heap.size)
    (hacc : acc ++ G zs to k = G zs to frm) (hownr : wr.ownsRow base 9 1 u (m + acc.length) ((S ++ acc).map Value.string)) (hbel : Below base w wr) (hT : Txt tb n zs wr) (hS : Src sb (.slice (some ⟨tb, 0, none⟩) n c) wr)
    (hown' : w1.ownsRow base 9 1 v' (m + acc.length + 1) (S.map Value.string ++ (acc.map Value.string ++ [.string (str zs k en)]))) (hgrow : (wr.alloc o).grownBy w1 u.ownBlock) :
    w1.ownsRow base 9 1 v' (m + (acc ++ [str zs k en]).length) ((S ++ (acc ++ [str zs k en])).map Value.string) ∧ Hid ((acc ++ [str zs k en]) ++ G zs to (en + 1) = G zs to frm) ∧ Below base w w1 ∧ Txt tb n zs w1 ∧ Src sb (.slice (some ⟨tb, 0, none⟩) n c) w1 := by
  have hsz := hbel.size
  refine ⟨by simpa [Nat.add_assoc] using hown', ?_, ?_, (hT.alloc o).grown (hownr.alloc o) hgrow, (hS.alloc o).grown (hownr.alloc o) hgrow⟩
  · show _ = _
    rw [← hacc, G_hash zs to k hto hk hx, ← he]
    simp
  · exact (hbel.alloc (by omega) o).grown hgrow (by simp; omega) (fun j hj => (hownr.lt j hj).1)

set_option maxHeartbeats 1600000 in
theorem app_any (sb tb n c frm to m base : Nat) (zs : List Int) (S : List ByteArray) (v : Value) (w : World) (hl : zs.length = n) (hn : n ≤ 1048576) (hnc : n ≤ c) (hto : to ≤ n) (hft : frm ≤ to) (hm : m ≤ 1048576) (hS : S.length = m)
    (hown : w.ownsRow base 9 1 v m (S.map Value.string)) (hbase : base ≤ w.heap.size) (hT : Txt tb n zs w) (hsrc : Src sb (.slice (some ⟨tb, 0, none⟩) n c) w) :
    Calls Try.prog 9 #[.pointer (some ⟨sb, 0, none⟩), v, .int .i64 frm, .int .i64 to] w fun e w' => ∃ v', e = .returned v' ∧ w'.ownsRow base 9 1 v' (m + (G zs to frm).length) ((S ++ G zs to frm).map Value.string) ∧ Below base w w' := by
  have HL : Hid (zs.length = n) := hl
  have HS : Hid (S.length = m) := hS
  clear hl hS
  obtain ⟨i0, hi, hz0, hz1, hz2⟩ := info_parts info9
  go_enter Try.func9, Try.ntmps9
  go_wp2
  go_loopw [1, 9] (fun u i wr => ∃ (k : Nat) (acc : List ByteArray), i = .int .i64 k ∧ frm ≤ k ∧ k ≤ n + 1 ∧ wr.ownsRow base 9 1 u (m + acc.length) ((S ++ acc).map Value.string) ∧ Hid (acc ++ G zs to k = G zs to frm) ∧ Below base w wr ∧ Txt tb n zs wr ∧ Src sb (.slice (some ⟨tb, 0, none⟩) n c) wr)
    (fun _ i _ => n + 1 - (intOf i).toNat)
  case atStart => exact ⟨frm, [], rfl, Nat.le_refl _, by omega, by simpa using hown, by simp [Hid], Below.refl _ _, hT, hsrc⟩
  case round =>
    obtain ⟨k, acc, rfl, hfk, hkn, hownr, hacc, hbel, hTr, hSr⟩ := hrel
    have cS := hSr.cell
    by_cases hlt : k < to
    · have cT := hTr.cell k (by omega)
      obtain ⟨x, hx⟩ : ∃ x, x = zs.getD k 0 := ⟨_, rfl⟩
      rw [← hx] at cT
      have HX : Hid (x = zs.getD k 0) := hx
      clear hx
      by_cases h35 : x = 35
      · subst h35
        have hE := lend_isEnd zs k (by have := HL.out; omega)
        obtain ⟨en, hen⟩ : ∃ en, en = lend zs k := ⟨_, rfl⟩
        rw [← hen] at hE
        have HE : Hid (en = lend zs k) := hen
        have he1 : k ≤ en := hE.lo
        have he2 : en ≤ n := by have := hE.hi; have := HL.out; omega
        have hGL : acc.length ≤ n := by
          have h1 := congrArg List.length hacc.out
          have h2 := G_len zs to frm (by have := HL.out; omega)
          simp only [List.length_append] at h1
          omega
        have hcall : Calls Try.prog 11 #[.pointer (some ⟨sb, 0, none⟩), .int .i64 k] wr fun e w' => e = .returned (.int .i64 en) ∧ wr = w' := by
          rw [hen]; exact (lineEnd_any sb tb n c k wr zs HL.out (by omega) hn cS hTr.cell).mono fun e w' h => ⟨h.1, h.2.symm⟩
        have HCall : Hid (Calls Try.prog 11 #[.pointer (some ⟨sb, 0, none⟩), .int .i64 k] wr fun e w' => e = .returned (.int .i64 en) ∧ wr = w') := hcall
        have hcv : (convert 22 9 (.slice (some ⟨tb, k, none⟩) (en - k) (c - k))).run Try.prog wr = .ok (.string (str zs k en)) wr := conv hTr HL.out he1 he2 _ rfl
        clear hen hE hcall
        go_wp2_with (first
          | (go_at_call 11; refine HCall.out.mono ?_; rintro e w' ⟨rfl, rfl⟩)
          | (at_builtin; refine wpList_append_own _ rfl _ _ 23 rfl base 9 i0 (.string ByteArray.empty) 1 16 Try.underlying23 hi hz0 hz1 hz2 rfl (by decide) _ _ _ rfl (hownr.alloc _) ⟨wr.heap.size, 0, none⟩ 1 1 [.string (str zs k en)] rfl rfl ?c1 ?c2 ?c3 ?c4 ?c5 ?_))
        case c1 =>
          intro j u hj
          match j, hj with
          | 0, hj => simp at hj; subst hj; simp [Addr.add]
        case c2 => first | rfl | (intro u hu; simp at hu; subst hu; rfl)
        case c3 => unfold maxLen; omega
        case c4 => omega
        case c5 => have := hbel.size; simp; omega
        intro v' w1 hown' hgrow _
        have R := rel_hit (by have := HL.out; omega) hlt HE.out HX.out.symm hbase hacc.out hownr hbel hTr hSr hown' hgrow
        clear hown' hgrow hownr hTr hSr cS cT hcv
        go_wp2
        go_roundw
        case rel => exact ⟨en + 1, acc ++ [str zs k en], by go_num, by omega, by omega, R.1, R.2.1, R.2.2.1, R.2.2.2.1, R.2.2.2.2⟩
        case measure => simp [intOf]; omega
      · have hne : (x == 35) = false := by simpa using h35
        have H35 : Hid (x ≠ 35) := h35
        clear h35
        go_wp2
        go_roundw
        case rel =>
          refine ⟨k + 1, acc, by go_num, by omega, by omega, hownr, ?_, hbel, hTr, hSr⟩
          have := G_skip zs to k (by have := HL.out; omega) hlt (by rw [← HX.out]; exact H35.out)
          show acc ++ G zs to (k + 1) = _
          rw [← this]; exact hacc.out
        case measure => simp [intOf]; omega
    · go_wp2
      have hG : G zs to k = [] := G_stop zs to k (by omega)
      have hA : acc = G zs to frm := by have := hacc.out; rw [hG] at this; simpa using this
      subst hA
      go_ret
      exact ⟨u1, rfl, hownr, hbel⟩

theorem zapp_none (ad : Option Addr) (n c : Nat) (v : Value) (frm to : Int) (h : to ≤ frm) (w : World) :
    Calls Try.prog 7 #[.slice ad n c, v, .int .i64 frm, .int .i64 to] w fun e w' => e = .returned v ∧ Below w.heap.size w w' := by
  go_enter Try.func7, Try.ntmps7
  go_wp2_with (go_at_call 9; refine (app_none _ v frm to h _).mono ?_; rintro e w' ⟨rfl, rfl⟩)
  go_ret
  exact ⟨rfl, (Below.refl _ _).alloc (Nat.le_refl _) _⟩

theorem zapp_any (tb n c frm to m base : Nat) (zs : List Int) (S : List ByteArray) (v : Value) (w : World) (hl : zs.length = n) (hn : n ≤ 1048576) (hnc : n ≤ c) (hto : to ≤ n) (hft : frm ≤ to) (hm : m ≤ 1048576) (hS : S.length = m)
    (hown : w.ownsRow base 9 1 v m (S.map Value.string)) (hbase : base ≤ w.heap.size) (hT : Txt tb n zs w) :
    Calls Try.prog 7 #[.slice (some ⟨tb, 0, none⟩) n c, v, .int .i64 frm, .int .i64 to] w fun e w' => ∃ v', e = .returned v' ∧ w'.ownsRow base 9 1 v' (m + (G zs to frm).length) ((S ++ G zs to frm).map Value.string) ∧ Below base w w' := by
  have hcall := app_any w.heap.size tb n c frm to m base zs S v (w.alloc (.cells #[.slice (some ⟨tb, 0, none⟩) n c, .slice none 0 0, .string { data := #[] }, .slice none 0 0] 32)) hl hn hnc hto hft hm hS (hown.alloc _) (by simp; omega) (hT.alloc _)
    ⟨_, heap_alloc_new w _, rfl⟩
  have HCall := hid hcall
  clear hcall hl hS hown
  go_enter Try.func7, Try.ntmps7
  go_wp2_with (go_at_call 9; refine HCall.out.mono ?_; rintro e w' ⟨v', rfl, hown', hb'⟩)
  go_ret
  exact ⟨v', rfl, by assumption, ((Below.refl _ _).alloc hbase _).trans (by assumption)⟩

end Go.Proofs.Qxb6623328a
