/-
  lwAppendLineWise (8).
-/
import Derived.Test.Qxb6623328aApp
namespace Go.Proofs.Qxb6623328a
open Go.RowKit
set_option linter.unusedVariables false

/-- Nothing to look at: the list is handed back. -/
theorem line_none (ad : Option Addr) (n c : Nat) (v : Value) (frm to : Int) (h : to ≤ 0) (w : World) (hn : n ≤ 1048576) :
    Calls Try.prog 8 #[v, .slice ad n c, .int .i64 frm, .int .i64 to] w fun e w' => e = .returned v ∧ w' = w := by
  by_cases h0 : n = 0
  · subst h0
    go_enter Try.func8, Try.ntmps8
    go_wp2
    refine wp_loop_rounds 1 ?_
    rw [rounds_succ]
    go_wp2
    go_ret
    exact ⟨rfl, rfl⟩
  · have h1 : (0 : Int) < (n : Int) := by omega
    go_enter Try.func8, Try.ntmps8
    go_wp2
    refine wp_loop_rounds 1 ?_
    rw [rounds_succ]
    go_wp2
    go_ret
    exact ⟨rfl, rfl⟩

theorem bw_sym (b n c k : Nat) (w : World) (zs : List Int) (hl : zs.length = n) (hk : k < n) (hn : n ≤ 1048576) (hT : Txt b n zs w) :
    Calls Try.prog 10 #[.slice (some ⟨b, 0, none⟩) n c, .int .i64 k] w fun e w' => e = .returned (.int .i64 (bw zs k)) ∧ w = w' :=
  (bw_any b 0 n c k w zs hl hk hn (cells0 hT.cell)).mono fun _ _ h => ⟨h.1, h.2.symm⟩

/-- A comment is taken: what is carried. -/
theorem line_hit {zs : List Int} {to a frm j q n : Nat} {acc : List ByteArray} (hl : zs.length = n) (hto : to ≤ n) (hacc : acc ++ G zs to (max a frm) = G zs to frm) (haj : a ≤ j) (hjn : j ≤ n) (hno : ∀ r, a ≤ r → r < j → bw zs r = 0) (hst : j < n → bw zs j ≠ 0)
    (hq1 : max a frm ≤ q) (hqj : q < j) (hqt : q < to) (hh : zs.getD q 0 = 35) (hn2 : ∀ r, max a frm ≤ r → r < q → zs.getD r 0 ≠ 35) : (acc ++ [str zs q j]) ++ G zs to (max (j + bw zs j) frm) = G zs to frm := by
  have hE : IsEnd zs a j := ⟨haj, by omega, hno, fun h => hst (by omega)⟩
  have := G_line_hit zs to a j (max a frm) q (by omega) hE (by omega) hq1 hqj hqt hh hn2
  rw [show max (j + bw zs j) frm = j + bw zs j by omega, ← hacc, this]
  simp

/-- No comment in the line: what is carried. -/
theorem line_miss {zs : List Int} {to a frm j n : Nat} {acc : List ByteArray} (hl : zs.length = n) (hto : to ≤ n) (hacc : acc ++ G zs to (max a frm) = G zs to frm) (haj : a ≤ j) (hjn : j ≤ n) (hno : ∀ r, a ≤ r → r < j → bw zs r = 0) (hst : j < n → bw zs j ≠ 0)
    (hn2 : ∀ r, max a frm ≤ r → r < j → r < to → zs.getD r 0 ≠ 35) : acc ++ G zs to (max (j + bw zs j) frm) = G zs to frm := by
  have hE : IsEnd zs a j := ⟨haj, by omega, hno, fun h => hst (by omega)⟩
  rw [← hacc, G_line_miss zs to a j (max a frm) frm (by omega) hE rfl hn2 haj]

/-- Behind the last line nothing is left. -/
theorem line_last {zs : List Int} {to frm j n : Nat} {acc : List ByteArray} (hto : to ≤ n) (hjn : ¬ j < n) (h : acc ++ G zs to (max (j + bw zs j) frm) = G zs to frm) : acc = G zs to frm := by
  rw [G_stop zs to (max (j + bw zs j) frm) (by omega), List.append_nil] at h
  exact h

theorem acc_le {zs : List Int} {to i frm n : Nat} {acc : List ByteArray} (hl : zs.length = n) (hto : to ≤ n) (h : acc ++ G zs to i = G zs to frm) : acc.length ≤ n := by
  have h1 := congrArg List.length h
  have h2 := G_len zs to frm (by omega)
  simp only [List.length_append] at h1
  omega

theorem grow_hit {tb n m base : Nat} {zs : List Int} {S acc : List ByteArray} {s : ByteArray} {u v' : Value} {w wr w1 : World} {o : Obj} (hbase : base ≤ w.heap.size)
    (hownr : wr.ownsRow base 9 1 u (m + acc.length) ((S ++ acc).map Value.string)) (hbel : Below base w wr) (hT : Txt tb n zs wr)
    (hown' : w1.ownsRow base 9 1 v' (m + acc.length + 1) (S.map Value.string ++ (acc.map Value.string ++ [.string s]))) (hgrow : (wr.alloc o).grownBy w1 u.ownBlock) :
    w1.ownsRow base 9 1 v' (m + (acc ++ [s]).length) ((S ++ (acc ++ [s])).map Value.string) ∧ Below base w w1 ∧ Txt tb n zs w1 := by
  have hsz := hbel.size
  refine ⟨by simpa [Nat.add_assoc] using hown', ?_, (hT.alloc o).grown (hownr.alloc o) hgrow⟩
  exact (hbel.alloc (by omega) o).grown hgrow (by simp; omega) (fun j hj => (hownr.lt j hj).1)

set_option maxHeartbeats 16000000 in
theorem line_any (tb n c frm to m base : Nat) (zs : List Int) (S : List ByteArray) (v : Value) (w : World) (hl : zs.length = n) (hn : n ≤ 1048576) (hnc : n ≤ c) (hto : to ≤ n) (hm : m ≤ 1048576) (hS : S.length = m)
    (hown : w.ownsRow base 9 1 v m (S.map Value.string)) (hbase : base ≤ w.heap.size) (hT : Txt tb n zs w) :
    Calls Try.prog 8 #[v, .slice (some ⟨tb, 0, none⟩) n c, .int .i64 frm, .int .i64 to] w fun e w' => ∃ v', e = .returned v' ∧ w'.ownsRow base 9 1 v' (m + (G zs to frm).length) ((S ++ G zs to frm).map Value.string) ∧ Below base w w' := by
  have HL := hid hl
  have HS := hid hS
  clear hl hS
  obtain ⟨i0, hi, hz0, hz1, hz2⟩ := info_parts info9
  go_enter Try.func8, Try.ntmps8
  go_wp2
  go_loopw [0, 9] (fun u i wr => ∃ (a : Nat) (acc : List ByteArray), i = .int .i64 a ∧ a ≤ n ∧ wr.ownsRow base 9 1 u (m + acc.length) ((S ++ acc).map Value.string) ∧ Hid (acc ++ G zs to (max a frm) = G zs to frm) ∧ Below base w wr ∧ Txt tb n zs wr)
    (fun _ i _ => n - (intOf i).toNat)
  case atStart => exact ⟨0, [], rfl, by omega, by simpa using hown, by simp [Hid], Below.refl _ _, hT⟩
  case round =>
    obtain ⟨a, acc, rfl, han, hownr, hacc, hbel, hTr⟩ := hrel
    by_cases hlt : a < to
    · have hltn : a < n := by omega
      go_wp2
      go_loop [10] (fun i => ∃ j : Nat, a ≤ j ∧ j ≤ n ∧ i = .int .i64 j ∧ Hid (∀ q, a ≤ q → q < j → bw zs q = 0)) (fun i => n - (intOf i).toNat)
      case atStart => exact ⟨a, Nat.le_refl _, by omega, rfl, fun m h1 h2 => by omega⟩
      case round =>
        obtain ⟨j, haj, hjn, rfl, hno⟩ := hrel
        by_cases hjl : j < n
        · by_cases h0 : bw zs j = 0
          · go_wp2_with (go_at_call 10; refine (bw_sym tb n c j wr zs HL.out hjl hn hTr).mono ?_; rintro e w' ⟨rfl, rfl⟩)
            go_round
            case rel =>
              refine ⟨j + 1, by omega, by omega, by go_num, fun m h1 h2 => ?_⟩
              rcases Nat.lt_or_ge m j with h | h
              · exact hno.out m h1 h
              · have : m = j := by omega
                subst this; exact h0
            case measure => simp [intOf]; omega
          · have hb : ((bw zs j : Int) == 0) = false := by simpa using h0
            have HST := hid (fun _ : j < n => h0)
            have hw1 := bw_le zs j
            have hw0 : 1 ≤ bw zs j := by omega
            have hGL : acc.length ≤ n := acc_le HL.out hto hacc.out
            clear h0
            by_cases hfa : a < frm
            · by_cases htj : to < j
              · go_wp2_with (go_at_call 10; refine (bw_sym tb n c j wr zs HL.out hjl hn hTr).mono ?_; rintro e w' ⟨rfl, rfl⟩)
                go_loop [0, 13] (fun o p => o = u0 ∧ ∃ q : Nat, frm ≤ q ∧ (q ≤ to ∨ q = frm) ∧ p = .int .i64 q ∧ Hid (∀ r, frm ≤ r → r < q → zs.getD r 0 ≠ 35)) (fun _ p => to - (intOf p).toNat)
                case atStart => exact ⟨rfl, frm, Nat.le_refl _, .inr rfl, rfl, fun r h1 h2 => by omega⟩
                case round =>
                  obtain ⟨rfl, q, hq1, hq2, rfl, hnh⟩ := hrel
                  by_cases hqh : q < to
                  · have cT := hTr.cell q (by omega)
                    obtain ⟨x, hx⟩ : ∃ x, x = zs.getD q 0 := ⟨_, rfl⟩
                    rw [← hx] at cT
                    have HX := hid hx
                    clear hx
                    by_cases h35 : x = 35
                    · subst h35
                      have hcv : (convert 22 9 (.slice (some ⟨tb, q, none⟩) (j - q) (c - q))).run Try.prog wr = .ok (.string (str zs q j)) wr := conv hTr HL.out (by omega) (by omega) _ rfl
                      go_wp2_with (at_builtin; refine wpList_append_own _ rfl _ _ 23 rfl base 9 i0 (.string ByteArray.empty) 1 16 Try.underlying23 hi hz0 hz1 hz2 rfl (by decide) _ _ _ rfl (hownr.alloc _) ⟨wr.heap.size, 0, none⟩ 1 1 [.string (str zs q j)] rfl rfl ?c1Aft ?c2Aft ?c3Aft ?c4Aft ?c5Aft ?_)
                      try (case c1Aft => exact cell_one_new _ _ _)
                      case c2Aft => first | rfl | (intro u hu; simp at hu; subst hu; rfl)
                      case c3Aft => unfold maxLen; omega
                      case c4Aft => omega
                      case c5Aft => have := hbel.size; simp; omega
                      intro v' w1 hown' hgrow _
                      have R := grow_hit hbase hownr hbel hTr hown' hgrow
                      have RG := hid (line_hit (q := q) HL.out hto hacc.out haj hjn hno.out HST.out (by omega) (by omega) (by omega) HX.out.symm (fun r h1 h2 => hnh.out r (by omega) h2))
                      clear hown' hgrow hownr hTr cT hcv hbel hacc
                      go_wp2_with (go_at_call 10; refine (bw_sym tb n c j w1 zs HL.out hjl hn R.2.2).mono ?_; rintro e w' ⟨rfl, rfl⟩)
                      go_roundw
                      case rel => exact ⟨j + bw zs j, acc ++ [str zs q j], by go_num, by have := bw_in zs j (by have := HL.out; omega); have := HL.out; omega, R.1, RG, R.2.1, R.2.2⟩
                      case measure => simp [intOf]; omega
                    · have hne : (x == 35) = false := by simpa using h35
                      have H35 := hid h35
                      clear h35
                      go_wp2
                      go_round
                      case rel =>
                        refine ⟨rfl, q + 1, by omega, .inl (by omega), by go_num, fun r h1 h2 => ?_⟩
                        rcases Nat.lt_or_ge r q with h | h
                        · exact hnh.out r h1 h
                        · have e : r = q := by omega
                          subst e; rw [← HX.out]; exact H35.out
                      case measure => simp [intOf]; omega
                  · have RG := hid (line_miss HL.out hto hacc.out haj hjn hno.out HST.out (fun r h1 h2 h3 => hnh.out r (by omega) (by omega)))
                    go_wp2_with (go_at_call 10; refine (bw_sym tb n c j wr zs HL.out hjl hn hTr).mono ?_; rintro e w' ⟨rfl, rfl⟩)
                    go_roundw
                    case rel => exact ⟨j + bw zs j, acc, by go_num, by have := bw_in zs j (by have := HL.out; omega); have := HL.out; omega, hownr, RG, hbel, hTr⟩
                    case measure => simp [intOf]; omega
              · go_wp2_with (go_at_call 10; refine (bw_sym tb n c j wr zs HL.out hjl hn hTr).mono ?_; rintro e w' ⟨rfl, rfl⟩)
                go_loop [0, 13] (fun o p => o = u0 ∧ ∃ q : Nat, frm ≤ q ∧ (q ≤ j ∨ q = frm) ∧ p = .int .i64 q ∧ Hid (∀ r, frm ≤ r → r < q → zs.getD r 0 ≠ 35)) (fun _ p => j - (intOf p).toNat)
                case atStart => exact ⟨rfl, frm, Nat.le_refl _, .inr rfl, rfl, fun r h1 h2 => by omega⟩
                case round =>
                  obtain ⟨rfl, q, hq1, hq2, rfl, hnh⟩ := hrel
                  by_cases hqh : q < j
                  · have cT := hTr.cell q (by omega)
                    obtain ⟨x, hx⟩ : ∃ x, x = zs.getD q 0 := ⟨_, rfl⟩
                    rw [← hx] at cT
                    have HX := hid hx
                    clear hx
                    by_cases h35 : x = 35
                    · subst h35
                      have hcv : (convert 22 9 (.slice (some ⟨tb, q, none⟩) (j - q) (c - q))).run Try.prog wr = .ok (.string (str zs q j)) wr := conv hTr HL.out (by omega) (by omega) _ rfl
                      go_wp2_with (at_builtin; refine wpList_append_own _ rfl _ _ 23 rfl base 9 i0 (.string ByteArray.empty) 1 16 Try.underlying23 hi hz0 hz1 hz2 rfl (by decide) _ _ _ rfl (hownr.alloc _) ⟨wr.heap.size, 0, none⟩ 1 1 [.string (str zs q j)] rfl rfl ?c1Afj ?c2Afj ?c3Afj ?c4Afj ?c5Afj ?_)
                      try (case c1Afj => exact cell_one_new _ _ _)
                      case c2Afj => first | rfl | (intro u hu; simp at hu; subst hu; rfl)
                      case c3Afj => unfold maxLen; omega
                      case c4Afj => omega
                      case c5Afj => have := hbel.size; simp; omega
                      intro v' w1 hown' hgrow _
                      have R := grow_hit hbase hownr hbel hTr hown' hgrow
                      have RG := hid (line_hit (q := q) HL.out hto hacc.out haj hjn hno.out HST.out (by omega) (by omega) (by omega) HX.out.symm (fun r h1 h2 => hnh.out r (by omega) h2))
                      clear hown' hgrow hownr hTr cT hcv hbel hacc
                      go_wp2_with (go_at_call 10; refine (bw_sym tb n c j w1 zs HL.out hjl hn R.2.2).mono ?_; rintro e w' ⟨rfl, rfl⟩)
                      go_roundw
                      case rel => exact ⟨j + bw zs j, acc ++ [str zs q j], by go_num, by have := bw_in zs j (by have := HL.out; omega); have := HL.out; omega, R.1, RG, R.2.1, R.2.2⟩
                      case measure => simp [intOf]; omega
                    · have hne : (x == 35) = false := by simpa using h35
                      have H35 := hid h35
                      clear h35
                      go_wp2
                      go_round
                      case rel =>
                        refine ⟨rfl, q + 1, by omega, .inl (by omega), by go_num, fun r h1 h2 => ?_⟩
                        rcases Nat.lt_or_ge r q with h | h
                        · exact hnh.out r h1 h
                        · have e : r = q := by omega
                          subst e; rw [← HX.out]; exact H35.out
                      case measure => simp [intOf]; omega
                  · have RG := hid (line_miss HL.out hto hacc.out haj hjn hno.out HST.out (fun r h1 h2 h3 => hnh.out r (by omega) (by omega)))
                    go_wp2_with (go_at_call 10; refine (bw_sym tb n c j wr zs HL.out hjl hn hTr).mono ?_; rintro e w' ⟨rfl, rfl⟩)
                    go_roundw
                    case rel => exact ⟨j + bw zs j, acc, by go_num, by have := bw_in zs j (by have := HL.out; omega); have := HL.out; omega, hownr, RG, hbel, hTr⟩
                    case measure => simp [intOf]; omega
            · by_cases htj : to < j
              · go_wp2_with (go_at_call 10; refine (bw_sym tb n c j wr zs HL.out hjl hn hTr).mono ?_; rintro e w' ⟨rfl, rfl⟩)
                go_loop [0, 13] (fun o p => o = u0 ∧ ∃ q : Nat, a ≤ q ∧ (q ≤ to ∨ q = a) ∧ p = .int .i64 q ∧ Hid (∀ r, a ≤ r → r < q → zs.getD r 0 ≠ 35)) (fun _ p => to - (intOf p).toNat)
                case atStart => exact ⟨rfl, a, Nat.le_refl _, .inr rfl, rfl, fun r h1 h2 => by omega⟩
                case round =>
                  obtain ⟨rfl, q, hq1, hq2, rfl, hnh⟩ := hrel
                  by_cases hqh : q < to
                  · have cT := hTr.cell q (by omega)
                    obtain ⟨x, hx⟩ : ∃ x, x = zs.getD q 0 := ⟨_, rfl⟩
                    rw [← hx] at cT
                    have HX := hid hx
                    clear hx
                    by_cases h35 : x = 35
                    · subst h35
                      have hcv : (convert 22 9 (.slice (some ⟨tb, q, none⟩) (j - q) (c - q))).run Try.prog wr = .ok (.string (str zs q j)) wr := conv hTr HL.out (by omega) (by omega) _ rfl
                      go_wp2_with (at_builtin; refine wpList_append_own _ rfl _ _ 23 rfl base 9 i0 (.string ByteArray.empty) 1 16 Try.underlying23 hi hz0 hz1 hz2 rfl (by decide) _ _ _ rfl (hownr.alloc _) ⟨wr.heap.size, 0, none⟩ 1 1 [.string (str zs q j)] rfl rfl ?c1Aat ?c2Aat ?c3Aat ?c4Aat ?c5Aat ?_)
                      try (case c1Aat => exact cell_one_new _ _ _)
                      case c2Aat => first | rfl | (intro u hu; simp at hu; subst hu; rfl)
                      case c3Aat => unfold maxLen; omega
                      case c4Aat => omega
                      case c5Aat => have := hbel.size; simp; omega
                      intro v' w1 hown' hgrow _
                      have R := grow_hit hbase hownr hbel hTr hown' hgrow
                      have RG := hid (line_hit (q := q) HL.out hto hacc.out haj hjn hno.out HST.out (by omega) (by omega) (by omega) HX.out.symm (fun r h1 h2 => hnh.out r (by omega) h2))
                      clear hown' hgrow hownr hTr cT hcv hbel hacc
                      go_wp2_with (go_at_call 10; refine (bw_sym tb n c j w1 zs HL.out hjl hn R.2.2).mono ?_; rintro e w' ⟨rfl, rfl⟩)
                      go_roundw
                      case rel => exact ⟨j + bw zs j, acc ++ [str zs q j], by go_num, by have := bw_in zs j (by have := HL.out; omega); have := HL.out; omega, R.1, RG, R.2.1, R.2.2⟩
                      case measure => simp [intOf]; omega
                    · have hne : (x == 35) = false := by simpa using h35
                      have H35 := hid h35
                      clear h35
                      go_wp2
                      go_round
                      case rel =>
                        refine ⟨rfl, q + 1, by omega, .inl (by omega), by go_num, fun r h1 h2 => ?_⟩
                        rcases Nat.lt_or_ge r q with h | h
                        · exact hnh.out r h1 h
                        · have e : r = q := by omega
                          subst e; rw [← HX.out]; exact H35.out
                      case measure => simp [intOf]; omega
                  · have RG := hid (line_miss HL.out hto hacc.out haj hjn hno.out HST.out (fun r h1 h2 h3 => hnh.out r (by omega) (by omega)))
                    go_wp2_with (go_at_call 10; refine (bw_sym tb n c j wr zs HL.out hjl hn hTr).mono ?_; rintro e w' ⟨rfl, rfl⟩)
                    go_roundw
                    case rel => exact ⟨j + bw zs j, acc, by go_num, by have := bw_in zs j (by have := HL.out; omega); have := HL.out; omega, hownr, RG, hbel, hTr⟩
                    case measure => simp [intOf]; omega
              · go_wp2_with (go_at_call 10; refine (bw_sym tb n c j wr zs HL.out hjl hn hTr).mono ?_; rintro e w' ⟨rfl, rfl⟩)
                go_loop [0, 13] (fun o p => o = u0 ∧ ∃ q : Nat, a ≤ q ∧ (q ≤ j ∨ q = a) ∧ p = .int .i64 q ∧ Hid (∀ r, a ≤ r → r < q → zs.getD r 0 ≠ 35)) (fun _ p => j - (intOf p).toNat)
                case atStart => exact ⟨rfl, a, Nat.le_refl _, .inr rfl, rfl, fun r h1 h2 => by omega⟩
                case round =>
                  obtain ⟨rfl, q, hq1, hq2, rfl, hnh⟩ := hrel
                  by_cases hqh : q < j
                  · have cT := hTr.cell q (by omega)
                    obtain ⟨x, hx⟩ : ∃ x, x = zs.getD q 0 := ⟨_, rfl⟩
                    rw [← hx] at cT
                    have HX := hid hx
                    clear hx
                    by_cases h35 : x = 35
                    · subst h35
                      have hcv : (convert 22 9 (.slice (some ⟨tb, q, none⟩) (j - q) (c - q))).run Try.prog wr = .ok (.string (str zs q j)) wr := conv hTr HL.out (by omega) (by omega) _ rfl
                      go_wp2_with (at_builtin; refine wpList_append_own _ rfl _ _ 23 rfl base 9 i0 (.string ByteArray.empty) 1 16 Try.underlying23 hi hz0 hz1 hz2 rfl (by decide) _ _ _ rfl (hownr.alloc _) ⟨wr.heap.size, 0, none⟩ 1 1 [.string (str zs q j)] rfl rfl ?c1Aaj ?c2Aaj ?c3Aaj ?c4Aaj ?c5Aaj ?_)
                      try (case c1Aaj => exact cell_one_new _ _ _)
                      case c2Aaj => first | rfl | (intro u hu; simp at hu; subst hu; rfl)
                      case c3Aaj => unfold maxLen; omega
                      case c4Aaj => omega
                      case c5Aaj => have := hbel.size; simp; omega
                      intro v' w1 hown' hgrow _
                      have R := grow_hit hbase hownr hbel hTr hown' hgrow
                      have RG := hid (line_hit (q := q) HL.out hto hacc.out haj hjn hno.out HST.out (by omega) (by omega) (by omega) HX.out.symm (fun r h1 h2 => hnh.out r (by omega) h2))
                      clear hown' hgrow hownr hTr cT hcv hbel hacc
                      go_wp2_with (go_at_call 10; refine (bw_sym tb n c j w1 zs HL.out hjl hn R.2.2).mono ?_; rintro e w' ⟨rfl, rfl⟩)
                      go_roundw
                      case rel => exact ⟨j + bw zs j, acc ++ [str zs q j], by go_num, by have := bw_in zs j (by have := HL.out; omega); have := HL.out; omega, R.1, RG, R.2.1, R.2.2⟩
                      case measure => simp [intOf]; omega
                    · have hne : (x == 35) = false := by simpa using h35
                      have H35 := hid h35
                      clear h35
                      go_wp2
                      go_round
                      case rel =>
                        refine ⟨rfl, q + 1, by omega, .inl (by omega), by go_num, fun r h1 h2 => ?_⟩
                        rcases Nat.lt_or_ge r q with h | h
                        · exact hnh.out r h1 h
                        · have e : r = q := by omega
                          subst e; rw [← HX.out]; exact H35.out
                      case measure => simp [intOf]; omega
                  · have RG := hid (line_miss HL.out hto hacc.out haj hjn hno.out HST.out (fun r h1 h2 h3 => hnh.out r (by omega) (by omega)))
                    go_wp2_with (go_at_call 10; refine (bw_sym tb n c j wr zs HL.out hjl hn hTr).mono ?_; rintro e w' ⟨rfl, rfl⟩)
                    go_roundw
                    case rel => exact ⟨j + bw zs j, acc, by go_num, by have := bw_in zs j (by have := HL.out; omega); have := HL.out; omega, hownr, RG, hbel, hTr⟩
                    case measure => simp [intOf]; omega
        · have HST := hid (fun h : j < n => (absurd h hjl : bw zs j ≠ 0))
          have hGL : acc.length ≤ n := acc_le HL.out hto hacc.out
          by_cases hfa : a < frm
          · by_cases htj : to < j
            · go_wp2
              go_loop [0, 13] (fun o p => o = u0 ∧ ∃ q : Nat, frm ≤ q ∧ (q ≤ to ∨ q = frm) ∧ p = .int .i64 q ∧ Hid (∀ r, frm ≤ r → r < q → zs.getD r 0 ≠ 35)) (fun _ p => to - (intOf p).toNat)
              case atStart => exact ⟨rfl, frm, Nat.le_refl _, .inr rfl, rfl, fun r h1 h2 => by omega⟩
              case round =>
                obtain ⟨rfl, q, hq1, hq2, rfl, hnh⟩ := hrel
                by_cases hqh : q < to
                · have cT := hTr.cell q (by omega)
                  obtain ⟨x, hx⟩ : ∃ x, x = zs.getD q 0 := ⟨_, rfl⟩
                  rw [← hx] at cT
                  have HX := hid hx
                  clear hx
                  by_cases h35 : x = 35
                  · subst h35
                    have hcv : (convert 22 9 (.slice (some ⟨tb, q, none⟩) (j - q) (c - q))).run Try.prog wr = .ok (.string (str zs q j)) wr := conv hTr HL.out (by omega) (by omega) _ rfl
                    go_wp2_with (at_builtin; refine wpList_append_own _ rfl _ _ 23 rfl base 9 i0 (.string ByteArray.empty) 1 16 Try.underlying23 hi hz0 hz1 hz2 rfl (by decide) _ _ _ rfl (hownr.alloc _) ⟨wr.heap.size, 0, none⟩ 1 1 [.string (str zs q j)] rfl rfl ?c1Bft ?c2Bft ?c3Bft ?c4Bft ?c5Bft ?_)
                    try (case c1Bft => exact cell_one_new _ _ _)
                    case c2Bft => first | rfl | (intro u hu; simp at hu; subst hu; rfl)
                    case c3Bft => unfold maxLen; omega
                    case c4Bft => omega
                    case c5Bft => have := hbel.size; simp; omega
                    intro v' w1 hown' hgrow _
                    have R := grow_hit hbase hownr hbel hTr hown' hgrow
                    have RG := hid (line_hit (q := q) HL.out hto hacc.out haj hjn hno.out HST.out (by omega) (by omega) (by omega) HX.out.symm (fun r h1 h2 => hnh.out r (by omega) h2))
                    clear hown' hgrow hownr hTr cT hcv hbel hacc
                    have RA := line_last hto hjl RG.out
                    rw [RA] at R
                    go_wp2
                    go_ret
                    exact ⟨v', rfl, by simpa using R.1, R.2.1⟩
                  · have hne : (x == 35) = false := by simpa using h35
                    have H35 := hid h35
                    clear h35
                    go_wp2
                    go_round
                    case rel =>
                      refine ⟨rfl, q + 1, by omega, .inl (by omega), by go_num, fun r h1 h2 => ?_⟩
                      rcases Nat.lt_or_ge r q with h | h
                      · exact hnh.out r h1 h
                      · have e : r = q := by omega
                        subst e; rw [← HX.out]; exact H35.out
                    case measure => simp [intOf]; omega
                · have RG := hid (line_miss HL.out hto hacc.out haj hjn hno.out HST.out (fun r h1 h2 h3 => hnh.out r (by omega) (by omega)))
                  have RA := line_last hto hjl RG.out
                  rw [RA] at hownr
                  go_wp2
                  go_ret
                  exact ⟨u0, rfl, by simpa using hownr, hbel⟩
            · go_wp2
              go_loop [0, 13] (fun o p => o = u0 ∧ ∃ q : Nat, frm ≤ q ∧ (q ≤ j ∨ q = frm) ∧ p = .int .i64 q ∧ Hid (∀ r, frm ≤ r → r < q → zs.getD r 0 ≠ 35)) (fun _ p => j - (intOf p).toNat)
              case atStart => exact ⟨rfl, frm, Nat.le_refl _, .inr rfl, rfl, fun r h1 h2 => by omega⟩
              case round =>
                obtain ⟨rfl, q, hq1, hq2, rfl, hnh⟩ := hrel
                by_cases hqh : q < j
                · have cT := hTr.cell q (by omega)
                  obtain ⟨x, hx⟩ : ∃ x, x = zs.getD q 0 := ⟨_, rfl⟩
                  rw [← hx] at cT
                  have HX := hid hx
                  clear hx
                  by_cases h35 : x = 35
                  · subst h35
                    have hcv : (convert 22 9 (.slice (some ⟨tb, q, none⟩) (j - q) (c - q))).run Try.prog wr = .ok (.string (str zs q j)) wr := conv hTr HL.out (by omega) (by omega) _ rfl
                    go_wp2_with (at_builtin; refine wpList_append_own _ rfl _ _ 23 rfl base 9 i0 (.string ByteArray.empty) 1 16 Try.underlying23 hi hz0 hz1 hz2 rfl (by decide) _ _ _ rfl (hownr.alloc _) ⟨wr.heap.size, 0, none⟩ 1 1 [.string (str zs q j)] rfl rfl ?c1Bfj ?c2Bfj ?c3Bfj ?c4Bfj ?c5Bfj ?_)
                    try (case c1Bfj => exact cell_one_new _ _ _)
                    case c2Bfj => first | rfl | (intro u hu; simp at hu; subst hu; rfl)
                    case c3Bfj => unfold maxLen; omega
                    case c4Bfj => omega
                    case c5Bfj => have := hbel.size; simp; omega
                    intro v' w1 hown' hgrow _
                    have R := grow_hit hbase hownr hbel hTr hown' hgrow
                    have RG := hid (line_hit (q := q) HL.out hto hacc.out haj hjn hno.out HST.out (by omega) (by omega) (by omega) HX.out.symm (fun r h1 h2 => hnh.out r (by omega) h2))
                    clear hown' hgrow hownr hTr cT hcv hbel hacc
                    have RA := line_last hto hjl RG.out
                    rw [RA] at R
                    go_wp2
                    go_ret
                    exact ⟨v', rfl, by simpa using R.1, R.2.1⟩
                  · have hne : (x == 35) = false := by simpa using h35
                    have H35 := hid h35
                    clear h35
                    go_wp2
                    go_round
                    case rel =>
                      refine ⟨rfl, q + 1, by omega, .inl (by omega), by go_num, fun r h1 h2 => ?_⟩
                      rcases Nat.lt_or_ge r q with h | h
                      · exact hnh.out r h1 h
                      · have e : r = q := by omega
                        subst e; rw [← HX.out]; exact H35.out
                    case measure => simp [intOf]; omega
                · have RG := hid (line_miss HL.out hto hacc.out haj hjn hno.out HST.out (fun r h1 h2 h3 => hnh.out r (by omega) (by omega)))
                  have RA := line_last hto hjl RG.out
                  rw [RA] at hownr
                  go_wp2
                  go_ret
                  exact ⟨u0, rfl, by simpa using hownr, hbel⟩
          · by_cases htj : to < j
            · go_wp2
              go_loop [0, 13] (fun o p => o = u0 ∧ ∃ q : Nat, a ≤ q ∧ (q ≤ to ∨ q = a) ∧ p = .int .i64 q ∧ Hid (∀ r, a ≤ r → r < q → zs.getD r 0 ≠ 35)) (fun _ p => to - (intOf p).toNat)
              case atStart => exact ⟨rfl, a, Nat.le_refl _, .inr rfl, rfl, fun r h1 h2 => by omega⟩
              case round =>
                obtain ⟨rfl, q, hq1, hq2, rfl, hnh⟩ := hrel
                by_cases hqh : q < to
                · have cT := hTr.cell q (by omega)
                  obtain ⟨x, hx⟩ : ∃ x, x = zs.getD q 0 := ⟨_, rfl⟩
                  rw [← hx] at cT
                  have HX := hid hx
                  clear hx
                  by_cases h35 : x = 35
                  · subst h35
                    have hcv : (convert 22 9 (.slice (some ⟨tb, q, none⟩) (j - q) (c - q))).run Try.prog wr = .ok (.string (str zs q j)) wr := conv hTr HL.out (by omega) (by omega) _ rfl
                    go_wp2_with (at_builtin; refine wpList_append_own _ rfl _ _ 23 rfl base 9 i0 (.string ByteArray.empty) 1 16 Try.underlying23 hi hz0 hz1 hz2 rfl (by decide) _ _ _ rfl (hownr.alloc _) ⟨wr.heap.size, 0, none⟩ 1 1 [.string (str zs q j)] rfl rfl ?c1Bat ?c2Bat ?c3Bat ?c4Bat ?c5Bat ?_)
                    try (case c1Bat => exact cell_one_new _ _ _)
                    case c2Bat => first | rfl | (intro u hu; simp at hu; subst hu; rfl)
                    case c3Bat => unfold maxLen; omega
                    case c4Bat => omega
                    case c5Bat => have := hbel.size; simp; omega
                    intro v' w1 hown' hgrow _
                    have R := grow_hit hbase hownr hbel hTr hown' hgrow
                    have RG := hid (line_hit (q := q) HL.out hto hacc.out haj hjn hno.out HST.out (by omega) (by omega) (by omega) HX.out.symm (fun r h1 h2 => hnh.out r (by omega) h2))
                    clear hown' hgrow hownr hTr cT hcv hbel hacc
                    have RA := line_last hto hjl RG.out
                    rw [RA] at R
                    go_wp2
                    go_ret
                    exact ⟨v', rfl, by simpa using R.1, R.2.1⟩
                  · have hne : (x == 35) = false := by simpa using h35
                    have H35 := hid h35
                    clear h35
                    go_wp2
                    go_round
                    case rel =>
                      refine ⟨rfl, q + 1, by omega, .inl (by omega), by go_num, fun r h1 h2 => ?_⟩
                      rcases Nat.lt_or_ge r q with h | h
                      · exact hnh.out r h1 h
                      · have e : r = q := by omega
                        subst e; rw [← HX.out]; exact H35.out
                    case measure => simp [intOf]; omega
                · have RG := hid (line_miss HL.out hto hacc.out haj hjn hno.out HST.out (fun r h1 h2 h3 => hnh.out r (by omega) (by omega)))
                  have RA := line_last hto hjl RG.out
                  rw [RA] at hownr
                  go_wp2
                  go_ret
                  exact ⟨u0, rfl, by simpa using hownr, hbel⟩
            · go_wp2
              go_loop [0, 13] (fun o p => o = u0 ∧ ∃ q : Nat, a ≤ q ∧ (q ≤ j ∨ q = a) ∧ p = .int .i64 q ∧ Hid (∀ r, a ≤ r → r < q → zs.getD r 0 ≠ 35)) (fun _ p => j - (intOf p).toNat)
              case atStart => exact ⟨rfl, a, Nat.le_refl _, .inr rfl, rfl, fun r h1 h2 => by omega⟩
              case round =>
                obtain ⟨rfl, q, hq1, hq2, rfl, hnh⟩ := hrel
                by_cases hqh : q < j
                · have cT := hTr.cell q (by omega)
                  obtain ⟨x, hx⟩ : ∃ x, x = zs.getD q 0 := ⟨_, rfl⟩
                  rw [← hx] at cT
                  have HX := hid hx
                  clear hx
                  by_cases h35 : x = 35
                  · subst h35
                    have hcv : (convert 22 9 (.slice (some ⟨tb, q, none⟩) (j - q) (c - q))).run Try.prog wr = .ok (.string (str zs q j)) wr := conv hTr HL.out (by omega) (by omega) _ rfl
                    go_wp2_with (at_builtin; refine wpList_append_own _ rfl _ _ 23 rfl base 9 i0 (.string ByteArray.empty) 1 16 Try.underlying23 hi hz0 hz1 hz2 rfl (by decide) _ _ _ rfl (hownr.alloc _) ⟨wr.heap.size, 0, none⟩ 1 1 [.string (str zs q j)] rfl rfl ?c1Baj ?c2Baj ?c3Baj ?c4Baj ?c5Baj ?_)
                    try (case c1Baj => exact cell_one_new _ _ _)
                    case c2Baj => first | rfl | (intro u hu; simp at hu; subst hu; rfl)
                    case c3Baj => unfold maxLen; omega
                    case c4Baj => omega
                    case c5Baj => have := hbel.size; simp; omega
                    intro v' w1 hown' hgrow _
                    have R := grow_hit hbase hownr hbel hTr hown' hgrow
                    have RG := hid (line_hit (q := q) HL.out hto hacc.out haj hjn hno.out HST.out (by omega) (by omega) (by omega) HX.out.symm (fun r h1 h2 => hnh.out r (by omega) h2))
                    clear hown' hgrow hownr hTr cT hcv hbel hacc
                    have RA := line_last hto hjl RG.out
                    rw [RA] at R
                    go_wp2
                    go_ret
                    exact ⟨v', rfl, by simpa using R.1, R.2.1⟩
                  · have hne : (x == 35) = false := by simpa using h35
                    have H35 := hid h35
                    clear h35
                    go_wp2
                    go_round
                    case rel =>
                      refine ⟨rfl, q + 1, by omega, .inl (by omega), by go_num, fun r h1 h2 => ?_⟩
                      rcases Nat.lt_or_ge r q with h | h
                      · exact hnh.out r h1 h
                      · have e : r = q := by omega
                        subst e; rw [← HX.out]; exact H35.out
                    case measure => simp [intOf]; omega
                · have RG := hid (line_miss HL.out hto hacc.out haj hjn hno.out HST.out (fun r h1 h2 h3 => hnh.out r (by omega) (by omega)))
                  have RA := line_last hto hjl RG.out
                  rw [RA] at hownr
                  go_wp2
                  go_ret
                  exact ⟨u0, rfl, by simpa using hownr, hbel⟩
    · have hG : G zs to (max a frm) = [] := G_stop zs to _ (by omega)
      have hA : acc = G zs to frm := by have := hacc.out; rw [hG] at this; simpa using this
      subst hA
      by_cases hn2 : a < n
      · go_wp2
        go_ret
        exact ⟨u0, rfl, by simpa using hownr, hbel⟩
      · go_wp2
        go_ret
        exact ⟨u0, rfl, by simpa using hownr, hbel⟩

end Go.Proofs.Qxb6623328a
