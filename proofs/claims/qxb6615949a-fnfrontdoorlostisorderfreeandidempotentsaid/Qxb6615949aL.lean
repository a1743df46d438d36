import Derived.Test.Qxb6615949aJ
import Derived.Test.Qxb6615949aK
namespace Go.Proofs.Qxb6615949a
open Go.RowKit

theorem own_strs {w : World} {base n c g : Nat} {L : List ByteArray} (h : w.ownsRow base 9 1 (.slice (some ⟨g, 0, none⟩) n c) n (L.map Value.string)) {i : Nat} (hi : i < L.length) : w.cell? ⟨g, i, none⟩ = some (.string L[i]) := by
  have hn : n = L.length := by have := h.1; simp at this; omega
  rw [h.cellAt i (by omega), List.getElem?_map, List.getElem?_eq_getElem hi]
  rfl

set_option maxHeartbeats 2000000 in
set_option maxRecDepth 100000 in
theorem distinctWith_any (a : Option Addr) (c : Nat) (ss : List ByteArray) (x y : ByteArray) (w : World) (hs : Strs w a ss) (hn : ss.length * 16 ≤ 140737488351232) :
    Calls Try.prog 40 #[.slice a ss.length c, .string x, .string y] w fun e w' => e = .returned (.int .i64 (distinct (x :: y :: ss))) ∧ Below w.heap.size w w' := by
  obtain ⟨i0, hi, hz0, hz1, hz2⟩ := info_parts Try.info9
  go_enter Try.func40, Try.ntmps40
  go_wp2_with (first
    | (at_make; refine wpList_make_own _ rfl _ _ 36 rfl w.heap.size 9 i0 (.string ByteArray.empty) 1 Try.underlying36 hi hz0 hz1 .i64 .i64 _ (ss.length + 2) rfl rfl (by simp) (by rw [hz2]; omega) (by unfold maxLen; omega) (Nat.le_refl _) ?_; intro w1 hown1 hgrow1)
    | (at_builtin; refine wpList_append_fits _ rfl (.tmp 17) (.tmp 19) 36 rfl w.heap.size 9 i0 1 Try.underlying36 hi hz1 w.heap.size 0 (ss.length + 2) [] rfl (hown1.alloc _) ⟨w1.heap.size, 0, none⟩ 1 1 [.string x] rfl rfl (World.news_of_block (heap_alloc_new w1 _)) (by simp [Value.oneCell']) (by omega) ?_; intro w2 hown2 hgrow2)
    | (at_builtin; refine wpList_append_fits _ rfl (.tmp 21) (.tmp 23) 36 rfl w.heap.size 9 i0 1 Try.underlying36 hi hz1 w.heap.size 1 (ss.length + 2) [.string x] rfl (by exact World.ownsRow.alloc hown2 _) ⟨w2.heap.size, 0, none⟩ 1 1 [.string y] rfl rfl (World.news_of_block (heap_alloc_new w2 _)) (by simp [Value.oneCell']) (by omega) ?_; intro w3 hown3 hgrow3))
  have z1 := hgrow1.size
  have z2 := hgrow2.size
  simp only [World.size_alloc] at z2
  have hb1 := (Below.refl w.heap.size w).grown hgrow1 (Nat.le_refl _) (by simp)
  have hb2 := (hb1.alloc z1 (.cells #[.string x] 9)).grown hgrow2 (by simp; omega) (fun k h => by cases h; exact Nat.le_refl _)
  have hb3 := (hb2.alloc (by omega) (.cells #[.string y] 9)).grown hgrow3 (by simp; omega) (fun k h => by cases h; exact Nat.le_refl _)
  clear hown1 hown2 hgrow1 hgrow2 hgrow3 hb1 hb2 z1 z2
  go_loopw [7, 8] (fun v i wr => ∃ k : Nat, k ≤ ss.length ∧ i = .int .i64 k ∧ v = .slice (some ⟨w.heap.size, 0, none⟩) (k + 2) (ss.length + 2) ∧ wr.ownsRow w.heap.size 9 1 (.slice (some ⟨w.heap.size, 0, none⟩) (k + 2) (ss.length + 2)) (k + 2) ((x :: y :: ss.take k).map Value.string) ∧ Below w.heap.size w wr) (fun _ i _ => ss.length - (intOf i).toNat)
  case atStart => exact ⟨0, Nat.zero_le _, rfl, rfl, hown3, hb3⟩
  clear hown3 hb3
  obtain ⟨k, hk, rfl, rfl, hown, hb⟩ := hrel
  by_cases hlt : k < ss.length
  · obtain ⟨b, off, rfl, hc⟩ := hs.below hb k hlt
    have hsz := hb.size
    go_wp2_with (first | (at_builtin; refine wpList_append_fits _ rfl _ _ 36 rfl w.heap.size 9 i0 1 Try.underlying36 hi hz1 w.heap.size _ _ _ rfl (hown.alloc _) ⟨wr.heap.size, 0, none⟩ 1 1 [.string ss[k]] rfl rfl (World.news_of_block (heap_alloc_new wr _)) (by simp [Value.oneCell']) (by omega) ?_; intro w2 hown2 hgrow2))
    have hb2 := (hb.alloc hsz (.cells #[.string ss[k]] 9)).grown hgrow2 (by simp; omega) (fun k h => by cases h; exact Nat.le_refl _)
    clear hgrow2
    go_roundw
    case rel => exact ⟨k + 1, by omega, by go_num, by simp, by rw [take_snoc _ _ hlt, show k + 1 + 2 = k + 2 + 1 by omega, ← List.cons_append, ← List.cons_append, List.map_append]; exact hown2, hb2⟩
    case measure => simp [intOf]; omega
  have hke : k = ss.length := by omega
  subst hke
  rw [List.take_of_length_le (Nat.le_refl _)] at hown
  obtain ⟨L, hL⟩ : ∃ L, L = x :: y :: ss := ⟨_, rfl⟩
  rw [← hL] at hown
  have HL := hide hL
  have hl1 : ss.length + 2 ≤ L.length := by rw [hL]; simp
  have hl2 : L.length ≤ ss.length + 2 := by rw [hL]; simp
  have hcell : ∀ i (h : i < L.length), wr.cell? ⟨w.heap.size, i, none⟩ = some (.string L[i]) := fun i h => own_strs hown h
  have HC := hide hcell
  clear hL hcell hown hs
  go_wp2
  go_loopw [9, 10] (fun n i w' => ∃ k m : Nat, k ≤ ss.length + 2 ∧ i = .int .i64 k ∧ n = .int .i64 (distinct (L.take k)) ∧ w' = wr.drewN m) (fun _ i _ => ss.length + 2 - (intOf i).toNat)
  case atStart => exact ⟨0, 0, by omega, rfl, rfl, rfl⟩
  obtain ⟨k, m, hk, rfl, rfl, rfl⟩ := hrel
  have hdl := distinct_le L k
  by_cases hlt2 : k < ss.length + 2
  · have hkL : k < L.length := by omega
    have ck := HC.out k hkL
    go_wp2
    go_loopw [11, 12] (fun s j w' => ∃ jj m : Nat, jj ≤ k ∧ s = .bool false ∧ j = .int .i64 jj ∧ Hid (L[k] ∉ L.take jj) ∧ w' = wr.drewN m) (fun _ j _ => k - (intOf j).toNat)
    case atStart => exact ⟨0, _, by omega, rfl, rfl, hide (by simp), rfl⟩
    obtain ⟨j, m2, hj, rfl, rfl, hno, rfl⟩ := hrel
    by_cases hlt3 : j < k
    · have cj := HC.out j (by omega)
      have i1 : (0 : Int) ≤ (k : Int) := by omega
      have i2 : (k : Int) < (ss.length : Int) + 2 := by omega
      have i3 : (0 : Int) ≤ (j : Int) := by omega
      have i4 : (j : Int) < (ss.length : Int) + 2 := by omega
      go_wp2
      go_quiet (fail)
      go_wp2
      · have ht : (L[j].toList == L[k].toList) = true := by assumption
        go_roundw
        case rel => exact ⟨k + 1, _, by omega, by go_num, by rw [take_snoc _ _ hkL, distinct_snoc_old (by rw [← (toList_beq _ _).1 ht]; exact List.mem_take_iff_getElem.2 ⟨j, by omega, rfl⟩)], rfl⟩
        case measure => simp [intOf]; omega
      · have ht : (L[j].toList == L[k].toList) = false := by assumption
        go_roundw
        case rel => exact ⟨j + 1, _, by omega, rfl, by go_num, hide (by
          rw [take_snoc _ _ (show j < L.length by omega), List.mem_append, not_or]
          refine ⟨hno.out, fun h => ?_⟩
          have : L[k] = L[j] := by simpa using h
          exact (toList_beq_false _ _).1 ht this.symm), rfl⟩
        case measure => simp [intOf]; omega
    · have hjk : j = k := by omega
      subst hjk
      go_wp2
      go_roundw
      case rel => exact ⟨j + 1, _, by omega, by go_num, by rw [take_snoc _ _ hkL, distinct_snoc_new hno.out]; go_num, rfl⟩
      case measure => simp [intOf]; omega
  · have hf : Hid (distinct (L.take k) = distinct (x :: y :: ss)) := by rw [List.take_of_length_le (by omega), HL.out]; rfl
    go_wp2
    go_ret
    rw [← hf.out]
    exact ⟨rfl, below_drewN hb _⟩

end Go.Proofs.Qxb6615949a
