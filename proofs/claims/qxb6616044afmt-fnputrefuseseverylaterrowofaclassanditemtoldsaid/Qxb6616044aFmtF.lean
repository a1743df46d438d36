import Derived.Test.Qxb6616044aFmtE
namespace Go.Proofs.Qxb6616044aFmt
open Go.RowKit Go.Extern.Stop Go.Stop Go.Extern
set_option linter.unusedSimpArgs false

theorem bytes_beq (a b : ByteArray) : (a.toList == b.toList) = decide (a = b) := by
  by_cases h : a = b
  · subst h; simp
  · have : a.toList ≠ b.toList := fun e => h (by
      rw [ByteArray.toList_eq, ByteArray.toList_eq] at e
      exact ByteArray.ext (Array.toList_inj.1 e))
    simp [h, this]
theorem findE_nil (c i : ByteArray) : findE [] c i = none := rfl
theorem findE_one (x : Ent) (c i : ByteArray) : findE [x] c i = if x.c = c ∧ x.i = i then some x else none := by
  have := findE_snoc [] x c i
  rwa [findE_nil] at this

theorem Res.below {B r : Nat} {w w' : World} {fund : ByteArray} {G : List Ent} (h : Res B w r fund G) (hb : Below w.heap.size w w') : Res B w' r fund G := by
  obtain ⟨lb, mv, mf, O, d1, d2, d3, d4, hB, hr, hlb, hv, hl, ho⟩ := h
  have t := Touch.of_below (S := fun _ => False) hb
  exact ⟨lb, mv, mf, O, d1, d2, d3, d4, hB, t.obj hr (by simp), t.obj hlb (by simp), hv.keep t (by simp), hl.keep t (by simp), row_keep ho t (by simp)⟩

set_option maxRecDepth 100000 in
set_option maxHeartbeats 8000000 in
theorem law4_any {H : Type} (F : Interp) (fund : ByteArray) (m : Option Nat) (f : ByteArray → Option Int) (l1 l2 : Int) (a1 a2 : Option Addr) (n1 n2 : Nat) (s1 s2 : List ByteArray) (w : World) (hF : F.answers w.tape) (hcl : Cols H w m f) (hs1 : Strs w a1 s1) (hs2 : Strs w a2 s2)
    (hz1 : ∀ s ∈ s1, s.size ≤ 140737488355328) (hz2 : ∀ s ∈ s2, s.size ≤ 140737488355328) (hfz : fund.size ≤ 140737488355328) (hL1 : s1.length ≤ 9223372036854775807) (hL2 : s2.length ≤ 9223372036854775807) :
    Calls Tryf.prog 4 #[.string fund, .map m, .int .i64 l1, .slice a1 s1.length n1, .int .i64 l2, .slice a2 s2.length n2] w fun e w' => e = .returned (.bool true) ∧ Below w.heap.size w w' := by
  obtain ⟨nc, hlen⟩ := hcl.len
  go_enter Tryf.func4, Tryf.ntmps4
  go_wp2_with (first
    | (go_at_call 5; refine (rowBytes_any _ _ _ _ (by first | exact hs1 | exact hs2) (by first | exact hL1 | exact hL2)).mono ?_; rintro e w' ⟨⟨r, rfl⟩, hw'⟩; have hw2 := hw'.symm; subst hw2; clear hw'))
  any_goals (go_ret; exact ⟨rfl, Below.refl _ _⟩)
  refine (rowFits_any (H := H) m f a1 _ n1 s1 rfl w hcl).mono ?_
  rintro e w' ⟨rfl, hw'⟩
  have hw2 := hw'.symm
  subst hw2
  clear hw'
  cases hf1 : rowFits f s1 with
  | false =>
    have hf1' : (fits f s1 ⟨#[99, 108, 97, 115, 115]⟩ && fits f s1 ⟨#[105, 116, 101, 109]⟩ && fits f s1 ⟨#[118, 97, 108, 117, 101]⟩) = false := hf1
    rw [hf1']
    go_wp2
    go_ret
    exact ⟨rfl, Below.refl _ _⟩
  | true =>
  have hf1' : (fits f s1 ⟨#[99, 108, 97, 115, 115]⟩ && fits f s1 ⟨#[105, 116, 101, 109]⟩ && fits f s1 ⟨#[118, 97, 108, 117, 101]⟩) = true := hf1
  rw [hf1']
  go_wp2_with fail
  refine (rowFits_any (H := H) m f a2 _ n2 s2 rfl w hcl).mono ?_
  rintro e w' ⟨rfl, hw'⟩
  have hw2 := hw'.symm
  subst hw2
  clear hw'
  cases hf2 : rowFits f s2 with
  | false =>
    have hf2' : (fits f s2 ⟨#[99, 108, 97, 115, 115]⟩ && fits f s2 ⟨#[105, 116, 101, 109]⟩ && fits f s2 ⟨#[118, 97, 108, 117, 101]⟩) = false := hf2
    rw [hf2']
    go_wp2
    go_ret
    exact ⟨rfl, Below.refl _ _⟩
  | true =>
  have hf2' : (fits f s2 ⟨#[99, 108, 97, 115, 115]⟩ && fits f s2 ⟨#[105, 116, 101, 109]⟩ && fits f s2 ⟨#[118, 97, 108, 117, 101]⟩) = true := hf2
  rw [hf2']
  simp only [Bool.and_eq_true] at hf1' hf2'
  have hml : (140737488355328 : Nat) ≤ maxLen := by unfold maxLen; omega
  by_cases hsame : colGet f s1 sClass = colGet f s2 sClass ∧ colGet f s1 sItem = colGet f s2 sItem
  · have hb1 : ((colGet f s1 ⟨#[99, 108, 97, 115, 115]⟩).toList == (colGet f s2 ⟨#[99, 108, 97, 115, 115]⟩).toList) = true := by rw [bytes_beq]; exact decide_eq_true hsame.1
    have hb2 : ((colGet f s1 ⟨#[105, 116, 101, 109]⟩).toList == (colGet f s2 ⟨#[105, 116, 101, 109]⟩).toList) = true := by rw [bytes_beq]; exact decide_eq_true hsame.2
    go_wp2_with (first
      | (go_at_call 7; refine (get_any (H := H) m f _ _ _ _ w hcl (by decide) (by first | exact hs1 | exact hs2) (by first | exact hf1'.1.1 | exact hf1'.1.2 | exact hf1'.2 | exact hf2'.1.1 | exact hf2'.1.2 | exact hf2'.2)).mono ?_; rintro e w' ⟨rfl, hw'⟩; have hw2 := hw'.symm; subst hw2; clear hw')
      | (go_at_call 8; fail))
    refine (newResult_any w fund w (Below.refl _ _)).mono ?_
    rintro e W1 ⟨r, rfl, R1, B1⟩
    go_wp2_with fail
    refine (zput_new (H := H) w r fund [] l1 m f a1 n1 s1 W1 B1 R1 hcl hs1 hf1 hz1 hfz (by simp) rfl).mono ?_
    rintro e W2 ⟨rfl, R2, B2⟩
    rw [List.nil_append] at R2
    go_wp2_with fail
    refine (zput_old (H := H) F w r fund [entOf f s1 l1] l2 m f a2 n2 s2 W2 B2 R2 hcl hs2 hf2 hz2 hfz (entOf f s1 l1) hF (by rw [findE_one]; exact if_pos hsame)).mono ?_
    rintro e W3 ⟨⟨p3, rfl⟩, R3, B3⟩
    go_wp2_with fail
    refine (zput_old (H := H) F w r fund [entOf f s1 l1] l2 m f a1 n1 s1 W3 B3 R3 hcl hs1 hf1 hz1 hfz (entOf f s1 l1) hF (by rw [findE_one]; exact if_pos ⟨rfl, rfl⟩)).mono ?_
    rintro e W4 ⟨⟨p4, rfl⟩, R4, B4⟩
    go_wp2_with fail
    refine (zput_old (H := H) F w r fund [entOf f s1 l1] l1 m f a2 n2 s2 W4 B4 R4 hcl hs2 hf2 hz2 hfz (entOf f s1 l1) hF (by rw [findE_one]; exact if_pos hsame)).mono ?_
    rintro e W5 ⟨⟨p5, rfl⟩, R5, B5⟩
    go_wp2_with fail
    refine (zitem_some _ r fund [entOf f s1 l1] _ _ ⟨colGet f s1 ⟨#[99, 108, 97, 115, 115]⟩, colGet f s1 ⟨#[105, 116, 101, 109]⟩, l1, colGet f s1 ⟨#[118, 97, 108, 117, 101]⟩⟩ W5 R5 (Nat.le_trans (get_size f s1 _ hz1) hml) (Nat.le_trans (get_size f s1 _ hz1) hml) (by rw [findE_one]; exact if_pos ⟨rfl, rfl⟩)).mono ?_
    rintro e W6 ⟨rfl, b6⟩
    have R6 := R5.below b6
    have B6 := below_chain B5 b6
    clear R2 R3 R4 R5 B1 B2 B3 B4 B5 R1
    go_wp2_with fail
    refine (orderLen_any _ r fund [entOf f s1 l1] W6 R6).mono ?_
    rintro e w7 ⟨rfl, hw7⟩
    have hw8 := hw7.symm
    subst hw8
    clear hw7
    go_wp2_with fail
    refine (orderAt_any _ r fund [entOf f s1 l1] W6 R6 0 ⟨colGet f s1 ⟨#[99, 108, 97, 115, 115]⟩, colGet f s1 ⟨#[105, 116, 101, 109]⟩, l1, colGet f s1 ⟨#[118, 97, 108, 117, 101]⟩⟩ rfl).mono ?_
    rintro e W7 ⟨rfl, b7⟩
    have B7 := below_chain B6 b7
    go_wp2
    go_ret
    exact ⟨rfl, B7⟩
  · have hfa : findE [entOf f s1 l1] (colGet f s2 sClass) (colGet f s2 sItem) = none := by rw [findE_one]; exact if_neg hsame
    have hfb : findE [entOf f s1 l1, entOf f s2 l2] (colGet f s1 sClass) (colGet f s1 sItem) = some (entOf f s1 l1) := by simp [findE, entOf]
    have hfc : findE [entOf f s1 l1, entOf f s2 l2] (colGet f s2 sClass) (colGet f s2 sItem) = some (entOf f s2 l2) := by simp [findE, entOf, hsame]
    by_cases hcc : colGet f s1 sClass = colGet f s2 sClass
    · have hb1 : ((colGet f s1 ⟨#[99, 108, 97, 115, 115]⟩).toList == (colGet f s2 ⟨#[99, 108, 97, 115, 115]⟩).toList) = true := by rw [bytes_beq]; exact decide_eq_true hcc
      have hb2 : ((colGet f s1 ⟨#[105, 116, 101, 109]⟩).toList == (colGet f s2 ⟨#[105, 116, 101, 109]⟩).toList) = false := by rw [bytes_beq]; exact decide_eq_false (fun e => hsame ⟨hcc, e⟩)
      go_wp2_with (first
        | (go_at_call 7; refine (get_any (H := H) m f _ _ _ _ w hcl (by decide) (by first | exact hs1 | exact hs2) (by first | exact hf1'.1.1 | exact hf1'.1.2 | exact hf1'.2 | exact hf2'.1.1 | exact hf2'.1.2 | exact hf2'.2)).mono ?_; rintro e w' ⟨rfl, hw'⟩; have hw2 := hw'.symm; subst hw2; clear hw')
        | (go_at_call 8; fail))
      refine (newResult_any w fund w (Below.refl _ _)).mono ?_
      rintro e W1 ⟨r, rfl, R1, B1⟩
      go_wp2_with fail
      refine (zput_new (H := H) w r fund [] l1 m f a1 n1 s1 W1 B1 R1 hcl hs1 hf1 hz1 hfz (by simp) rfl).mono ?_
      rintro e W2 ⟨rfl, R2, B2⟩
      rw [List.nil_append] at R2
      go_wp2_with fail
      refine (zput_new (H := H) w r fund [entOf f s1 l1] l2 m f a2 n2 s2 W2 B2 R2 hcl hs2 hf2 hz2 hfz (by simp) hfa).mono ?_
      rintro e W3 ⟨rfl, R3, B3⟩
      rw [List.cons_append, List.nil_append] at R3
      go_wp2_with fail
      refine (zput_old (H := H) F w r fund [entOf f s1 l1, entOf f s2 l2] l2 m f a1 n1 s1 W3 B3 R3 hcl hs1 hf1 hz1 hfz (entOf f s1 l1) hF hfb).mono ?_
      rintro e W4 ⟨⟨p4, rfl⟩, R4, B4⟩
      go_wp2_with fail
      refine (zput_old (H := H) F w r fund [entOf f s1 l1, entOf f s2 l2] l1 m f a2 n2 s2 W4 B4 R4 hcl hs2 hf2 hz2 hfz (entOf f s2 l2) hF hfc).mono ?_
      rintro e W5 ⟨⟨p5, rfl⟩, R5, B5⟩
      go_wp2_with fail
      refine (zitem_some _ r fund [entOf f s1 l1, entOf f s2 l2] _ _ ⟨colGet f s1 ⟨#[99, 108, 97, 115, 115]⟩, colGet f s1 ⟨#[105, 116, 101, 109]⟩, l1, colGet f s1 ⟨#[118, 97, 108, 117, 101]⟩⟩ W5 R5 (Nat.le_trans (get_size f s1 _ hz1) hml) (Nat.le_trans (get_size f s1 _ hz1) hml) hfb).mono ?_
      rintro e W6 ⟨rfl, b6⟩
      have R6 := R5.below b6
      have B6 := below_chain B5 b6
      clear R2 R3 R4 R5 B1 B2 B3 B4 B5 R1 b6
      go_wp2_with fail
      refine (orderLen_any _ r fund [entOf f s1 l1, entOf f s2 l2] W6 R6).mono ?_
      rintro e w7 ⟨rfl, hw7⟩
      have hw8 := hw7.symm
      subst hw8
      clear hw7
      go_wp2_with fail
      refine (zitem_some _ r fund [entOf f s1 l1, entOf f s2 l2] _ _ ⟨colGet f s2 ⟨#[99, 108, 97, 115, 115]⟩, colGet f s2 ⟨#[105, 116, 101, 109]⟩, l2, colGet f s2 ⟨#[118, 97, 108, 117, 101]⟩⟩ W6 R6 (Nat.le_trans (get_size f s2 _ hz2) hml) (Nat.le_trans (get_size f s2 _ hz2) hml) hfc).mono ?_
      rintro e W7 ⟨rfl, b7⟩
      have R7 := R6.below b7
      have B7 := below_chain B6 b7
      clear R6 B6 b7
      go_wp2_with fail
      refine (orderAt_any _ r fund [entOf f s1 l1, entOf f s2 l2] W7 R7 0 ⟨colGet f s1 ⟨#[99, 108, 97, 115, 115]⟩, colGet f s1 ⟨#[105, 116, 101, 109]⟩, l1, colGet f s1 ⟨#[118, 97, 108, 117, 101]⟩⟩ rfl).mono ?_
      rintro e W8 ⟨rfl, b8⟩
      have R8 := R7.below b8
      have B8 := below_chain B7 b8
      go_wp2_with fail
      refine (orderAt_any _ r fund [entOf f s1 l1, entOf f s2 l2] W8 R8 1 ⟨colGet f s2 ⟨#[99, 108, 97, 115, 115]⟩, colGet f s2 ⟨#[105, 116, 101, 109]⟩, l2, colGet f s2 ⟨#[118, 97, 108, 117, 101]⟩⟩ rfl).mono ?_
      rintro e W9 ⟨rfl, b9⟩
      have B9 := below_chain B8 b9
      go_wp2
      go_ret
      exact ⟨rfl, B9⟩
    · have hb1 : ((colGet f s1 ⟨#[99, 108, 97, 115, 115]⟩).toList == (colGet f s2 ⟨#[99, 108, 97, 115, 115]⟩).toList) = false := by rw [bytes_beq]; exact decide_eq_false hcc
      go_wp2_with (first
        | (go_at_call 7; refine (get_any (H := H) m f _ _ _ _ w hcl (by decide) (by first | exact hs1 | exact hs2) (by first | exact hf1'.1.1 | exact hf1'.1.2 | exact hf1'.2 | exact hf2'.1.1 | exact hf2'.1.2 | exact hf2'.2)).mono ?_; rintro e w' ⟨rfl, hw'⟩; have hw2 := hw'.symm; subst hw2; clear hw')
        | (go_at_call 8; fail))
      refine (newResult_any w fund w (Below.refl _ _)).mono ?_
      rintro e W1 ⟨r, rfl, R1, B1⟩
      go_wp2_with fail
      refine (zput_new (H := H) w r fund [] l1 m f a1 n1 s1 W1 B1 R1 hcl hs1 hf1 hz1 hfz (by simp) rfl).mono ?_
      rintro e W2 ⟨rfl, R2, B2⟩
      rw [List.nil_append] at R2
      go_wp2_with fail
      refine (zput_new (H := H) w r fund [entOf f s1 l1] l2 m f a2 n2 s2 W2 B2 R2 hcl hs2 hf2 hz2 hfz (by simp) hfa).mono ?_
      rintro e W3 ⟨rfl, R3, B3⟩
      rw [List.cons_append, List.nil_append] at R3
      go_wp2_with fail
      refine (zput_old (H := H) F w r fund [entOf f s1 l1, entOf f s2 l2] l2 m f a1 n1 s1 W3 B3 R3 hcl hs1 hf1 hz1 hfz (entOf f s1 l1) hF hfb).mono ?_
      rintro e W4 ⟨⟨p4, rfl⟩, R4, B4⟩
      go_wp2_with fail
      refine (zput_old (H := H) F w r fund [entOf f s1 l1, entOf f s2 l2] l1 m f a2 n2 s2 W4 B4 R4 hcl hs2 hf2 hz2 hfz (entOf f s2 l2) hF hfc).mono ?_
      rintro e W5 ⟨⟨p5, rfl⟩, R5, B5⟩
      go_wp2_with fail
      refine (zitem_some _ r fund [entOf f s1 l1, entOf f s2 l2] _ _ ⟨colGet f s1 ⟨#[99, 108, 97, 115, 115]⟩, colGet f s1 ⟨#[105, 116, 101, 109]⟩, l1, colGet f s1 ⟨#[118, 97, 108, 117, 101]⟩⟩ W5 R5 (Nat.le_trans (get_size f s1 _ hz1) hml) (Nat.le_trans (get_size f s1 _ hz1) hml) hfb).mono ?_
      rintro e W6 ⟨rfl, b6⟩
      have R6 := R5.below b6
      have B6 := below_chain B5 b6
      clear R2 R3 R4 R5 B1 B2 B3 B4 B5 R1 b6
      go_wp2_with fail
      refine (orderLen_any _ r fund [entOf f s1 l1, entOf f s2 l2] W6 R6).mono ?_
      rintro e w7 ⟨rfl, hw7⟩
      have hw8 := hw7.symm
      subst hw8
      clear hw7
      go_wp2_with fail
      refine (zitem_some _ r fund [entOf f s1 l1, entOf f s2 l2] _ _ ⟨colGet f s2 ⟨#[99, 108, 97, 115, 115]⟩, colGet f s2 ⟨#[105, 116, 101, 109]⟩, l2, colGet f s2 ⟨#[118, 97, 108, 117, 101]⟩⟩ W6 R6 (Nat.le_trans (get_size f s2 _ hz2) hml) (Nat.le_trans (get_size f s2 _ hz2) hml) hfc).mono ?_
      rintro e W7 ⟨rfl, b7⟩
      have R7 := R6.below b7
      have B7 := below_chain B6 b7
      clear R6 B6 b7
      go_wp2_with fail
      refine (orderAt_any _ r fund [entOf f s1 l1, entOf f s2 l2] W7 R7 0 ⟨colGet f s1 ⟨#[99, 108, 97, 115, 115]⟩, colGet f s1 ⟨#[105, 116, 101, 109]⟩, l1, colGet f s1 ⟨#[118, 97, 108, 117, 101]⟩⟩ rfl).mono ?_
      rintro e W8 ⟨rfl, b8⟩
      have R8 := R7.below b8
      have B8 := below_chain B7 b8
      go_wp2_with fail
      refine (orderAt_any _ r fund [entOf f s1 l1, entOf f s2 l2] W8 R8 1 ⟨colGet f s2 ⟨#[99, 108, 97, 115, 115]⟩, colGet f s2 ⟨#[105, 116, 101, 109]⟩, l2, colGet f s2 ⟨#[118, 97, 108, 117, 101]⟩⟩ rfl).mono ?_
      rintro e W9 ⟨rfl, b9⟩
      have B9 := below_chain B8 b9
      go_wp2
      go_ret
      exact ⟨rfl, B9⟩

end Go.Proofs.Qxb6616044aFmt
