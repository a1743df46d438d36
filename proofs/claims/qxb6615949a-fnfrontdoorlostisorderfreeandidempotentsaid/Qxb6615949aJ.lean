import Derived.Test.Qxb6615949aI
namespace Go.Proofs.Qxb6615949a
open Go.RowKit

theorem without_take_succ_miss {ss : List ByteArray} {x : ByteArray} {k : Nat} (h : k < ss.length) (ht : (ss[k].toList == x.toList) = false) : without (ss.take (k + 1)) x = without (ss.take k) x ++ [ss[k]] := by
  rw [take_snoc _ _ h, without_snoc_miss _ ht]
theorem without_take_succ_hit {ss : List ByteArray} {x : ByteArray} {k : Nat} (h : k < ss.length) (ht : (ss[k].toList == x.toList) = true) : without (ss.take (k + 1)) x = without (ss.take k) x := by
  rw [take_snoc _ _ h, (toList_beq _ _).1 ht, without_snoc_hit]
theorem without_le (ss : List ByteArray) (x : ByteArray) (k : Nat) : (without (ss.take k) x).length ≤ k := by
  have := List.length_filter_le (fun s : ByteArray => !(s.toList == x.toList)) (ss.take k)
  have h2 : (ss.take k).length ≤ k := List.length_take_le _ _
  unfold without
  omega

set_option maxHeartbeats 1000000 in
set_option maxRecDepth 100000 in
theorem without_any (a : Option Addr) (c : Nat) (ss : List ByteArray) (x : ByteArray) (w : World) (hs : Strs w a ss) (hn : ss.length * 16 ≤ 140737488351232) :
    Calls Try.prog 34 #[.slice a ss.length c, .string x] w fun e w' => ∃ v, e = .returned v ∧ w'.ownsRow w.heap.size 9 1 v (without ss x).length ((without ss x).map Value.string) ∧ Below w.heap.size w w' := by
  obtain ⟨i0, hi, hz0, hz1, hz2⟩ := info_parts Try.info9
  go_enter Try.func34, Try.ntmps34
  go_wp2_with (first | (at_make; refine wpList_make_own _ rfl _ _ 36 rfl w.heap.size 9 i0 (.string ByteArray.empty) 1 Try.underlying36 hi hz0 hz1 .i64 .i64 _ ss.length rfl rfl rfl (by rw [hz2]; omega) (by unfold maxLen; omega) (Nat.le_refl _) ?_; intro w1 hown hgrow))
  go_loopw [5, 6] (fun v i wr => ∃ k : Nat, k ≤ ss.length ∧ i = .int .i64 k ∧ v = .slice (some ⟨w.heap.size, 0, none⟩) (without (ss.take k) x).length ss.length ∧ wr.ownsRow w.heap.size 9 1 (.slice (some ⟨w.heap.size, 0, none⟩) (without (ss.take k) x).length ss.length) (without (ss.take k) x).length ((without (ss.take k) x).map Value.string) ∧ Below w.heap.size w wr) (fun _ i _ => ss.length - (intOf i).toNat)
  case atStart => exact ⟨0, Nat.zero_le _, rfl, rfl, hown, (Below.refl _ _).grown hgrow (Nat.le_refl _) (by simp)⟩
  clear hown hgrow
  obtain ⟨k, hk, rfl, rfl, hown, hb⟩ := hrel
  by_cases hlt : k < ss.length
  · obtain ⟨b, off, rfl, hc⟩ := hs.below hb k hlt
    cases ht : (ss[k].toList == x.toList) with
    | true =>
      have he := without_take_succ_hit hlt ht
      have HE := hide he
      clear he
      go_wp2
      go_roundw
      case rel => exact ⟨k + 1, by omega, by go_num, by rw [HE.out], by rw [HE.out]; exact hown, hb⟩
      case measure => simp [intOf]; omega
    | false =>
      have he := without_take_succ_miss hlt ht
      have HE := hide he
      have hle := without_le ss x k
      clear he
      have hsz := hb.size
      go_wp2_with (first | (at_builtin; refine wpList_append_fits _ rfl _ _ 36 rfl w.heap.size 9 i0 1 Try.underlying36 hi hz1 w.heap.size _ _ _ rfl (hown.alloc _) ⟨wr.heap.size, 0, none⟩ 1 1 [.string ss[k]] rfl rfl (World.news_of_block (heap_alloc_new wr _)) (by simp [Value.oneCell']) (by omega) ?_; intro w2 hown2 hgrow2))
      have hb2 := (hb.alloc hsz (.cells #[.string ss[k]] 9)).grown hgrow2 (by simp; omega) (fun k h => by cases h; exact Nat.le_refl _)
      clear hgrow2
      go_roundw
      case rel => exact ⟨k + 1, by omega, by go_num, by rw [HE.out, List.length_append]; rfl, by rw [HE.out, List.length_append, List.map_append]; exact hown2, hb2⟩
      case measure => simp [intOf]; omega
  · have HO : wr.ownsRow w.heap.size 9 1 (.slice (some ⟨w.heap.size, 0, none⟩) (without (ss.take k) x).length ss.length) (without ss x).length ((without ss x).map Value.string) := by
      have h := hown
      rw [List.take_of_length_le (by omega)] at h ⊢
      exact h
    clear hown
    go_wp2
    go_ret
    exact ⟨_, rfl, HO, hb⟩

/-- zzStringsEqual on slices that read alike. -/
theorem stringsEqual_any (a b : Option Addr) (c d : Nat) (ss : List ByteArray) (w : World) (hs : Strs w a ss) (ht : Strs w b ss) (hn : ss.length ≤ 9223372036854775807) :
    Calls Try.prog 35 #[.slice a ss.length c, .slice b ss.length d] w fun e w' => e = .returned (.bool true) ∧ ∃ n, w' = w.drewN n := by
  go_enter Try.func35, Try.ntmps35
  go_wp2
  go_loopw [5] (fun i wr => ∃ k n : Nat, k ≤ ss.length ∧ i = .int .i64 k ∧ wr = w.drewN n) (fun i _ => ss.length - (intOf i).toNat)
  case atStart => exact ⟨0, 0, Nat.zero_le _, rfl, rfl⟩
  obtain ⟨k, n, hk, rfl, rfl⟩ := hrel
  by_cases hlt : k < ss.length
  · obtain ⟨b1, o1, rfl, hc⟩ := hs k hlt
    obtain ⟨b2, o2, rfl, hc'⟩ := ht k hlt
    have i1 : (0 : Int) ≤ (k : Int) := by omega
    have i2 : (k : Int) < (ss.length : Int) := by omega
    go_wp2
    go_quiet (fail)
    go_wp2
    go_roundw
    case rel => exact ⟨k + 1, _, by omega, by go_num, rfl⟩
    case measure => simp [intOf]; omega
  · go_wp2
    go_ret
    exact ⟨rfl, _, rfl⟩

end Go.Proofs.Qxb6615949a
