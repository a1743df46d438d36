import Derived.Test.Qxb6616159aF
namespace Go.Proofs.Qxb6616159a
open Go.RowKit
set_option linter.unusedSimpArgs false

/-- The imports of the items. -/
def imps (xs : List It) : List (ByteArray × ByteArray) := (xs.filter wfIt).map impIt
def impCells (l : List (ByteArray × ByteArray)) : List Value := l.flatMap fun p => [.string p.1, .string p.2]
theorem imps_snoc (xs : List It) (x : It) : imps (xs ++ [x]) = if wfIt x then imps xs ++ [impIt x] else imps xs := by
  unfold imps
  rw [List.filter_append, List.map_append]
  cases h : wfIt x <;> simp [h]
theorem impCells_snoc (l : List (ByteArray × ByteArray)) (p : ByteArray × ByteArray) : impCells (l ++ [p]) = impCells l ++ [.string p.1, .string p.2] := by simp [impCells]
theorem imps_le (xs : List It) : (imps xs).length ≤ xs.length := by
  unfold imps
  rw [List.length_map]
  exact List.length_filter_le _ _
theorem Try.info32 : (Try.prog.info? 32).map (fun i => (i.zero, i.size, i.bytes)) = some (some (.agg #[.string ⟨#[]⟩, .string ⟨#[]⟩]), 2, 32) := by kernel_rfl

set_option maxHeartbeats 4000000 in
theorem imports_any (B d : Nat) (vs : List Value) (xs : List It) (w : World) (hd : Dep B w d vs) (hE : EncAll w vs xs) (hz : ∀ x ∈ xs, x.t.size ≤ 140737488355328) (hn : xs.length ≤ 10000000) :
    Calls Try.prog 9 #[.pointer (some ⟨d, 0, none⟩)] w fun e w' => ∃ O, e = .returned O ∧ w'.ownsRow w.heap.size 32 2 O (imps xs).length (impCells (imps xs)) ∧ Below w.heap.size w w' := by
  obtain ⟨O, e0, e1, e2, e3, e4, e5, e7, hBd, hh, ho⟩ := hd
  obtain ⟨i0, hi0, hz0, hz1, hz2⟩ := info_parts Try.info32
  have k6 := cell_block (j := 6) hh rfl
  have hlen := hE.length
  go_enter Try.func9, Try.ntmps9
  rcases ho.2 with ⟨rfl, hz0'⟩ | ⟨g, cap, cur, rfl, r1, r2, r3, r4, r5, r6⟩
  · have hx : xs = [] := List.eq_nil_of_length_eq_zero (by omega)
    subst hx
    go_wp2_with fail
    refine wp_loop_rounds 1 ?_
    rw [rounds_succ]
    go_wp2
    go_ret
    exact ⟨_, rfl, World.ownsRow_nil _ _ _ _, Below.refl _ _⟩
  · go_wp2_with fail
    go_loopw [3, 5, 6, 7, 13] (fun out _ _ _ i wr => ∃ (j : Nat), j ≤ xs.length ∧ i = .int .i64 j ∧ wr.ownsRow w.heap.size 32 2 out (imps (xs.take j)).length (impCells (imps (xs.take j))) ∧ Below w.heap.size w wr) (fun _ _ _ _ i _ => xs.length - (intOf i).toNat)
    case atStart => exact ⟨0, Nat.zero_le _, rfl, World.ownsRow_nil _ _ _ _, Below.refl _ _⟩
    obtain ⟨j, hj, rfl, hown, hb⟩ := hrel
    by_cases hlt : j < xs.length
    · obtain ⟨v, hv, hEv⟩ := hE.nth j hlt
      have cv := ho.cells (g := g) rfl _ _ hv
      rw [Addr.add_mid, Nat.zero_add] at cv
      have cvr := (hb.cell (cell_lt cv)).trans cv
      have hnx := take_snoc xs j hlt It.zero
      have hzx : (xs.getD j It.zero).t.size ≤ 140737488355328 := by
        rw [List.getD_eq_getElem?_getD, List.getElem?_eq_getElem hlt]
        exact hz _ (List.getElem_mem _)
      generalize xs.getD j It.zero = x at *
      have hEr := hEv.keep (Touch.of_below (S := fun _ => False) hb) (by simp)
      have hj0 : (0 : Int) ≤ j := by omega
      have hj1 : (j : Int) < vs.length := by omega
      go_wp2_with fail
      refine (importOf_any v x wr hEr hzx).mono ?_
      rintro e W1 ⟨⟨a, b, rfl, hab⟩, b1⟩
      have al : Below W1.heap.size W1 (W1.alloc (.cells #[.string a, .string b] 32)) := (Below.refl _ _).alloc (Nat.le_refl _) _
      have hb2 := below_chain (below_chain hb b1) al
      have hown2 := row_keep (row_keep hown (Touch.of_below (S := fun _ => False) b1) (by simp)) (Touch.of_below (S := fun _ => False) al) (by simp)
      have hlej : (imps (xs.take j)).length ≤ 10000000 := Nat.le_trans (imps_le _) (by rw [List.length_take]; omega)
      clear hown hb b1 al cvr hEr
      obtain ⟨q, hq⟩ : ∃ q, wfIt x = q := ⟨_, rfl⟩
      rw [hq] at hab ⊢
      cases q with
      | false =>
        have e3 : imps (xs.take (j + 1)) = imps (xs.take j) := by rw [hnx, imps_snoc, hq]; rfl
        rw [← e3] at hown2
        go_wp2
        go_roundw
        case rel => exact ⟨j + 1, by omega, by go_num, hown2, hb2⟩
        case measure => simp [intOf]; omega
      | true =>
        have e3 : imps (xs.take (j + 1)) = imps (xs.take j) ++ [(a, b)] := by rw [hnx, imps_snoc, hq, hab rfl]; rfl
        go_wp2_with (at_builtin; refine wpList_append_own_at _ rfl (.tmp 23) (.tmp 25) 27 rfl w.heap.size 32 i0 _ 2 32 Try.underlying27 hi0 hz0 hz1 hz2 rfl (by decide) u3 _ _ rfl (hown2.alloc _) ⟨W1.heap.size + 1, 0, none⟩ 1 1 [.string a, .string b] rfl rfl (World.news_of_block (B := W1.heap.size + 1) (cs := #[.string a, .string b]) (t := 32) (fr := (0, 0)) (by rw [← alloc_size W1 (.cells #[.string a, .string b] 32)]; exact heap_alloc_new _ _)) (by simp; exact ⟨rfl, rfl⟩) (by unfold maxLen; omega) (by omega) (by have := hb2.size; simp at this ⊢; omega) ?_; intro v' W3 hown3 hg3 _ _)
        have hb3 : Below w.heap.size w W3 := (hb2.alloc hb2.size (.cells #[.string a, .string b] 32)).grown hg3 (by have := hb2.size; simp at this ⊢; omega) (fun k h => (hown2.lt k h).1)
        go_roundw
        case rel =>
          refine ⟨j + 1, by omega, by go_num, ?_, hb3⟩
          rw [e3, impCells_snoc, List.length_append]
          exact hown3
        case measure => simp [intOf]; omega
    · rw [List.take_of_length_le (by omega)] at hown
      go_wp2_with fail
      go_ret
      exact ⟨_, rfl, hown, hb⟩

end Go.Proofs.Qxb6616159a
