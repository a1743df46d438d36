import Derived.Test.Qxb6615949aE
import Derived.Deep.AppendLies
namespace Go.Proofs.Qxb6615949a
open Go.RowKit

/-- DeleteFunc's loop: the first p of L are what is left of the first q; from q on L is as it was. -/
def DelInv (ss : List ByteArray) (x : ByteArray) (L : List ByteArray) (p q : Nat) : Prop :=
  L.length = ss.length ∧ p < q ∧ q ≤ ss.length ∧ L.take p = without (ss.take q) x ∧ L.drop q = ss.drop q

theorem DelInv.start {ss : List ByteArray} {x : ByteArray} {p : Nat} (h : p < ss.length) (hx : ss[p] = x) (hno : x ∉ ss.take p) : DelInv ss x ss p (p + 1) := by
  refine ⟨rfl, by omega, by omega, ?_, rfl⟩
  rw [take_snoc _ _ h, hx, without_snoc_hit, without_of_not_mem hno]

theorem DelInv.elem {ss : List ByteArray} {x : ByteArray} {L : List ByteArray} {p q : Nat} (h : DelInv ss x L p q) (hq : q < ss.length) : ∃ hl : q < L.length, L[q] = ss[q] := by
  obtain ⟨h1, h2, h3, h4, h5⟩ := h
  refine ⟨by omega, ?_⟩
  have e : (L.drop q)[0]? = (ss.drop q)[0]? := by rw [h5]
  rw [List.getElem?_drop, List.getElem?_drop, Nat.add_zero, List.getElem?_eq_getElem (by omega), List.getElem?_eq_getElem hq] at e
  exact Option.some.inj e

theorem DelInv.hit {ss : List ByteArray} {x : ByteArray} {L : List ByteArray} {p q : Nat} (h : DelInv ss x L p q) (hq : q < ss.length) (hx : ss[q] = x) : DelInv ss x L p (q + 1) := by
  obtain ⟨h1, h2, h3, h4, h5⟩ := h
  refine ⟨h1, by omega, by omega, ?_, ?_⟩
  · rw [take_snoc _ _ hq, hx, without_snoc_hit, h4]
  · rw [← List.drop_drop, ← List.drop_drop, h5]

theorem DelInv.miss {ss : List ByteArray} {x : ByteArray} {L : List ByteArray} {p q : Nat} (h : DelInv ss x L p q) (hq : q < ss.length) (hx : (ss[q].toList == x.toList) = false) : DelInv ss x (L.set p ss[q]) (p + 1) (q + 1) := by
  obtain ⟨h1, h2, h3, h4, h5⟩ := h
  refine ⟨by simpa using h1, by omega, by omega, ?_, ?_⟩
  · rw [take_snoc _ _ hq, without_snoc_miss _ hx, ← h4, take_snoc _ p (by simp; omega), List.take_set_of_le (Nat.le_refl _)]
    simp
  · rw [List.drop_set_of_lt (by omega), ← List.drop_drop, ← List.drop_drop, h5]

theorem DelInv.done {ss : List ByteArray} {x : ByteArray} {L : List ByteArray} {p : Nat} (h : DelInv ss x L p ss.length) : L.take p = without ss x ∧ p = (without ss x).length := by
  obtain ⟨h1, h2, h3, h4, h5⟩ := h
  rw [List.take_of_length_le (l := ss) (Nat.le_refl _)] at h4
  refine ⟨h4, ?_⟩
  rw [← h4, List.length_take]
  omega

theorem grownBy_trans {a b c : World} {g : Option Nat} (h2 : a.grownBy b g) (h4 : b.grownBy c g) : a.grownBy c g :=
  ⟨h4.os.trans h2.os, h4.tape.trans h2.tape, h4.output.trans h2.output, Nat.le_trans h2.size h4.size, fun k hk hne => (h4.block k (Nat.lt_of_lt_of_le hk h2.size) hne).trans (h2.block k hk hne)⟩

theorem hide {p : Prop} (h : p) : Hid p := h

theorem zero9 (w : World) : (zeroValue 9).run Try.prog w = .ok (.string ByteArray.empty) w := by kernel_rfl

set_option maxHeartbeats 400000 in
theorem deleteFunc_none (a : Option Addr) (c bx : Nat) (ss : List ByteArray) (x : ByteArray) (w : World) (hs : Strs w a ss) (hn : ss.length ≤ 9223372036854775807) (hbx : w.cell? ⟨bx, 0, none⟩ = some (.string x)) (hx : x ∉ ss) :
    Calls Try.prog 57 #[.slice a ss.length c, .func (.func 58) #[] #[.pointer (some ⟨bx, 0, none⟩)]] w fun e w' => e = .returned (.slice a ss.length c) ∧ w' = w := by
  go_enter Try.func57, Try.ntmps57
  go_wp2_with fail
  refine (indexFunc_any _ _ _ ss x _ hs hn hbx).mono ?_
  rintro e w' ⟨⟨r, rfl, hr⟩, rfl⟩
  rcases hr with ⟨rfl, -⟩ | ⟨i, hi, -, h2, -⟩
  · go_wp2
    go_ret
    exact ⟨rfl, rfl⟩
  · exact absurd (h2 ▸ List.getElem_mem _) hx

set_option maxHeartbeats 1000000 in
theorem deleteFunc_some (base g c bx : Nat) (ss : List ByteArray) (x : ByteArray) (w : World) (hown : w.ownsRow base 9 1 (.slice (some ⟨g, 0, none⟩) ss.length c) ss.length (ss.map Value.string)) (hn : ss.length ≤ 9223372036854775807) (hc : ss.length ≤ c) (hbx : w.cell? ⟨bx, 0, none⟩ = some (.string x)) (hne : bx ≠ g) (hx : x ∈ ss) :
    Calls Try.prog 57 #[.slice (some ⟨g, 0, none⟩) ss.length c, .func (.func 58) #[] #[.pointer (some ⟨bx, 0, none⟩)]] w fun e w' => e = .returned (.slice (some ⟨g, 0, none⟩) (without ss x).length c) ∧
      w'.ownsRow base 9 1 (.slice (some ⟨g, 0, none⟩) (without ss x).length c) (without ss x).length ((without ss x).map Value.string) ∧ w.grownBy w' (some g) := by
  go_enter Try.func57, Try.ntmps57
  go_wp2_with fail
  refine (indexFunc_any _ _ _ ss x _ (Strs.of_own hown).1 hn hbx).mono ?_
  rintro e w' ⟨⟨r, rfl, hr⟩, rfl⟩
  rcases hr with ⟨-, h⟩ | ⟨i, hi, rfl, h2, h3⟩
  · exact absurd hx h
  have hd := DelInv.start hi h2 h3
  have hi1 : ((i : Int) == -1) = false := beq_eq_false_iff_ne.2 (by omega)
  clear h2 h3
  go_wp2_with fail
  go_loopw [5, 6] (fun p q wr => ∃ (i j : Nat) (L : List ByteArray), p = .int .i64 i ∧ q = .int .i64 j ∧ DelInv ss x L i j ∧ wr.ownsRow base 9 1 (.slice (some ⟨g, 0, none⟩) ss.length c) ss.length (L.map Value.string) ∧ w'.grownBy wr (some g) ∧ wr.cell? ⟨bx, 0, none⟩ = some (.string x)) (fun _ q _ => ss.length - (intOf q).toNat)
  case atStart => exact ⟨i, i + 1, ss, rfl, by go_num, hd, hown, World.grownBy.refl _ _, hbx⟩
  clear hd hown
  obtain ⟨p, q, L, rfl, rfl, hd, hown, hg, hbr⟩ := hrel
  have hpq := hd.2.1
  have hq := hd.2.2.1
  by_cases hlt : q < ss.length
  · obtain ⟨hl, he⟩ := hd.elem hlt
    have hc1 := hown.cellAt q (by omega)
    rw [List.getElem?_eq_getElem (by simpa using hl), List.getElem_map, he] at hc1
    cases ht : (ss[q].toList == x.toList) with
    | true =>
      have hd1 := hd.hit hlt ((toList_beq _ _).1 ht)
      go_wp2
      go_roundw
      case rel => exact ⟨p, q + 1, L, rfl, by go_num, hd1, hown, hg, hbr⟩
      case measure => simp [intOf]; omega
    | false =>
      have hd1 := hd.miss hlt ht
      have hpl : p < L.length := by omega
      have hc2 := hown.cellAt p (by omega)
      rw [List.getElem?_eq_getElem (by simpa using hpl)] at hc2
      have hf2 := hown.frozenAt p
      obtain ⟨hs1, hs2⟩ := hown.stored p (.string ss[q])
      rw [← List.map_set] at hs1
      have hg2 := grownBy_trans hg hs2
      have hb2 : (wr.setCell ⟨g, p, none⟩ (.string ss[q])).cell? ⟨bx, 0, none⟩ = some (.string x) := by
        rw [hs2.cell_far ⟨bx, 0, none⟩ (cell_lt hbr) (by simpa using hne)]; exact hbr
      go_wp2
      go_roundw
      case rel => exact ⟨p + 1, q + 1, L.set p ss[q], by go_num, by go_num, hd1, hs1, hg2, hb2⟩
      case measure => simp [intOf]; omega
  · have hqe : q = ss.length := by omega
    subst hqe
    have hce : ∀ j, j < ss.length - p → (wr.cell? ⟨g, p + j, none⟩).isSome = true := by
      intro j hj
      rw [hown.cellAt (p + j) (by omega), List.getElem?_eq_getElem (by have := hd.1; simp; omega)]
      rfl
    have hclr := fun ty => Lib.run_clear_slice (P := Try.prog) wr 36 9 ty (.string ByteArray.empty) Try.underlying36 zero9 rfl rfl g p (ss.length - p) (c - p) (by omega) hce (fun j _ => hown.frozenAt (p + j))
    obtain ⟨hs1, hs2⟩ := ownsRow_setCells (List.replicate (ss.length - p) (.string ByteArray.empty)) wr _ p hown
    obtain ⟨hd1, hd2⟩ := hd.done
    have hcut := ownsRow_cut hs1 p (by omega)
    rw [setL_take _ _ _ _ (Nat.le_refl _), ← List.map_take, hd1] at hcut
    have HC := hide hcut
    have HD : Hid (p = (without ss x).length) := hd2
    have HG := hide (grownBy_trans hg hs2)
    clear hcut hd2 hd1 hs1 hs2 hce
    go_wp2
    go_ret
    rw [← HD.out]
    exact ⟨rfl, HC.out, HG.out⟩

end Go.Proofs.Qxb6615949a
