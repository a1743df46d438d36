import Derived.Test.Qxb6616159aI
namespace Go.Proofs.Qxb6616159a
open Go.RowKit
set_option linter.unusedSimpArgs false

/-- Block b holds the item x. -/
def XB (w : World) (b : Nat) (x : It) : Prop := w.heap[b]? = some (.cells #[.int .i64 x.k, .string x.t, .int .i64 x.ck, .string x.c, .int .i64 x.pk, .string x.p] 26 (0, 0))
theorem XB.keep {S : Nat → Prop} {w w' : World} {b : Nat} {x : It} (h : XB w b x) (t : Touch S w w') (hS : ¬ S b) : XB w' b x := t.obj h hS
theorem XB.cells {w : World} {b : Nat} {x : It} (h : XB w b x) : w.cell? ⟨b, 0, none⟩ = some (.int .i64 x.k) ∧ w.cell? ⟨b, 1, none⟩ = some (.string x.t) ∧ w.cell? ⟨b, 2, none⟩ = some (.int .i64 x.ck) ∧ w.cell? ⟨b, 3, none⟩ = some (.string x.c) ∧ w.cell? ⟨b, 4, none⟩ = some (.int .i64 x.pk) ∧ w.cell? ⟨b, 5, none⟩ = some (.string x.p) :=
  ⟨cell_block h rfl, cell_block h rfl, cell_block h rfl, cell_block h rfl, cell_block h rfl, cell_block h rfl⟩
theorem XB.items {w : World} {b : Nat} {x : It} (h : XB w b x) : Items w (some ⟨b, 0, none⟩) [x] := by
  intro i hi
  obtain rfl : i = 0 := by simpa using hi
  obtain ⟨h0, h1, h2, h3, h4, h5⟩ := h.cells
  exact ⟨b, 0, rfl, h0, h1, h2, h3, h4, h5⟩

theorem Imps.below {w w' : World} {ad : Option Addr} {l : List (ByteArray × ByteArray)} (h : Imps w ad l) (hb : Below w.heap.size w w') : Imps w' ad l := by
  intro j p hp
  obtain ⟨g, h1, h2, h3⟩ := h j p hp
  exact ⟨g, h1, cell_keep hb h2, cell_keep hb h3⟩
theorem imps_insert (xs : List It) (n : Nat) (x : It) : imps (xs.take n ++ [x] ++ xs.drop n) = imps (xs.take n) ++ ((if wfIt x then [impIt x] else []) ++ imps (xs.drop n)) := by
  rw [imps_append, imps_append, imps_cons, List.append_assoc]
  rfl
theorem imps_cut (xs : List It) (n : Nat) : imps xs = imps (xs.take n) ++ imps (xs.drop n) := by rw [← imps_append, List.take_append_drop]

set_option maxRecDepth 100000 in
set_option maxHeartbeats 8000000 in
theorem law4_any (a : Option Addr) (c : Nat) (xs : List It) (k : Int) (x : It) (w : World) (hs : Items w a xs) (hcap : xs.length ≤ c) (hnone : a = none → c = 0) :
    Calls Try.prog 4 #[.slice a xs.length c, .int .i64 k, x.val] w fun e w' => e = .returned (.bool true) ∧ Below w.heap.size w w' := by
  obtain ⟨i0, hi0, hz0, hz1, hz2⟩ := info_parts Try.info26
  have hb0 : Below w.heap.size w (w.alloc (.cells #[.int .i64 x.k, .string x.t, .int .i64 x.ck, .string x.c, .int .i64 x.pk, .string x.p] 26)) := (Below.refl _ _).alloc (Nat.le_refl _) _
  have hx0 : XB (w.alloc (.cells #[.int .i64 x.k, .string x.t, .int .i64 x.ck, .string x.c, .int .i64 x.pk, .string x.p] 26)) w.heap.size x := heap_alloc_new w _
  unfold It.val
  go_enter Try.func4, Try.ntmps4
  go_wp2_with fail
  refine (bytes11_any a c xs k x _ (hs.below hb0)).mono ?_
  rintro e W1 ⟨⟨r, rfl, hsm⟩, b1⟩
  have B1 := below_chain hb0 b1
  have hx1 := hx0.keep (Touch.of_below (S := fun _ => False) b1) (by simp)
  have z1 : w.heap.size + 1 ≤ W1.heap.size := by have := b1.size; simpa using this
  clear hb0 hx0 b1
  obtain ⟨x0, x1, x2, x3, x4, x5⟩ := hx1.cells
  cases r with
  | false =>
    go_wp2
    go_ret
    exact ⟨rfl, B1⟩
  | true =>
  obtain ⟨hn', hzx', hz'⟩ := hsm rfl
  clear hsm
  have hn : xs.length ≤ 1048576 := hn'
  have hz : Hid (∀ x ∈ xs, x.t.size ≤ 140737488355328) := fun x hx => Nat.le_trans (hz' x hx) (by omega)
  have hzx : Hid (x.t.size ≤ 140737488355328) := Nat.le_trans hzx' (by omega)
  clear hn' hz' hzx'
  go_wp2_with fail
  refine (tooBig_any a c xs _ W1 (hs.below B1) (by omega)).mono ?_
  rintro e W2 ⟨⟨r, rfl⟩, b2⟩
  have B2 := below_chain B1 b2
  have hx2 := hx1.keep (Touch.of_below (S := fun _ => False) b2) (by simp)
  have z2 : w.heap.size + 1 ≤ W2.heap.size := Nat.le_trans z1 b2.size
  clear b2 B1 hx1 z1 x0 x1 x2 x3 x4 x5
  cases r with
  | true =>
    go_wp2
    go_ret
    exact ⟨rfl, B2⟩
  | false =>
  by_cases hk0 : k < 0
  · go_wp2
    go_ret
    exact ⟨rfl, B2⟩
  by_cases hk1 : (xs.length : Int) < k
  · go_wp2
    go_ret
    exact ⟨rfl, B2⟩
  obtain ⟨n, rfl⟩ : ∃ n : Nat, k = n := ⟨k.toNat, by omega⟩
  have hnl : n ≤ xs.length := by omega
  have hln : (xs.take n).length = n := by rw [List.length_take]; omega
  have q0 : (0 : Int) ≤ n := by omega
  have q1 : (n : Int) ≤ c := by omega
  have q2 : (n : Int) ≤ xs.length := by omega
  go_upto_region 8 with (at_make; refine wpList_make_own _ rfl _ _ 22 rfl (w.heap.size + 1) 26 i0 _ 6 Try.underlying22 hi0 hz0 hz1 .i64 .i64 _ (xs.length + 1) rfl rfl (by first | rfl | omega | (push_cast; rfl)) (by rw [hz2]; omega) (by unfold maxLen; omega) z2 ?_; intro W3 ho3 hg3)
  clear hk0 hk1 hi0 hz0 hz1 hz2
  have t3 : Touch (fun k => w.heap.size + 1 ≤ k) W2 W3 := Touch.of_grown hg3 (fun k h => by cases h)
  have B3 : Below w.heap.size w W3 := B2.trans (t3.toBelow (fun k h => by omega) B2.size)
  have hx3 := hx2.keep t3 (by omega)
  obtain ⟨V1, W4, hr1, ho4, hne4, t4⟩ := append_items (w.heap.size + 1) _ [] (xs.take n) a c W3 ho3 (by simp) ((hs.below B3).take n) (Nat.le_trans z2 t3.size) (by rw [hln]; simp; omega) (fun h => ⟨hnone h, List.eq_nil_of_length_eq_zero (by have := hnone h; omega)⟩)
  rw [hln] at hr1
  rw [List.nil_append] at ho4
  have B4 : Below w.heap.size w W4 := B3.trans (t4.toBelow (fun k h => by omega) B3.size)
  have hx4 := hx3.keep t4 (by omega)
  have z4 := Nat.le_trans z2 (Nat.le_trans t3.size t4.size)
  clear hg3 t3 t4 ho3 hx3 B3 hx2 B2
  go_upto_region 9 with (at_builtin; refine wpList_append_run rfl (.tmp 47) (.tmp 50) 22 rfl _ _ rfl rfl V1 W4 (by exact hr1) ?_)
  clear hr1
  obtain ⟨x0, x1, x2, x3, x4, x5⟩ := hx4.cells
  have al : Below W4.heap.size W4 (W4.alloc (.cells #[.int .i64 x.k, .string x.t, .int .i64 x.ck, .string x.c, .int .i64 x.pk, .string x.p] 26)) := (Below.refl _ _).alloc (Nat.le_refl _) _
  have hxa : XB (W4.alloc (.cells #[.int .i64 x.k, .string x.t, .int .i64 x.ck, .string x.c, .int .i64 x.pk, .string x.p] 26)) W4.heap.size x := heap_alloc_new W4 _
  obtain ⟨V2, W5, hr2, ho5, hne5, t5⟩ := append_items (w.heap.size + 1) V1 (xs.take n) [x] (some ⟨W4.heap.size, 0, none⟩) 1 _ (ho4.alloc _) hne4 hxa.items (Nat.le_trans z4 al.size) (by rw [hln]; simp; omega) (fun h => by cases h)
  have B5 : Below w.heap.size w W5 := (below_chain B4 al).trans (t5.toBelow (fun k h => by omega) (below_chain B4 al).size)
  have hx5 := (hx4.keep (Touch.of_below (S := fun _ => False) al) (by simp)).keep t5 (by omega)
  have z5 := Nat.le_trans z4 (Nat.le_trans al.size t5.size)
  clear t5 al hxa ho4 hne4 hx4 B4 z4
  go_upto_region 10 with (at_builtin; refine wpList_append_run rfl (.tmp 52) (.tmp 54) 22 rfl _ _ rfl rfl V2 W5 (by exact hr2) ?_)
  clear hr2 x0 x1 x2 x3 x4 x5
  have hld : (xs.drop n).length = xs.length - n := List.length_drop
  have hnb : (xs.take n ++ [x]).length + (xs.drop n).length ≤ 10000000 := by rw [List.length_append, hln, hld]; simp; omega
  go_cut [7] (fun O wx => wx.ownsRow (w.heap.size + 1) 26 6 O ((xs.take n ++ [x]) ++ xs.drop n).length (itCells ((xs.take n ++ [x]) ++ xs.drop n)) ∧ XB wx w.heap.size x ∧ Below w.heap.size w wx)
  case first =>
    have hit : Items W5 (if c = n then a else a.map (fun x => x.add (n * 6))) (xs.drop n) := by
      split
      · exact fun i hi => absurd hi (by rw [hld]; omega)
      · exact (hs.below B5).drop n
    have hcn : (if c = n then a else a.map (fun x => x.add (n * 6))) = none → c - n = 0 ∧ xs.drop n = [] := fun h => by
      have : a = none := by
        split at h
        · exact h
        · exact Option.map_eq_none_iff.1 h
      exact ⟨by have := hnone this; omega, List.eq_nil_of_length_eq_zero (by have := hnone this; omega)⟩
    obtain ⟨V3, W6, hr3, ho6, hne6, t6⟩ := append_items (w.heap.size + 1) V2 (xs.take n ++ [x]) (xs.drop n) _ (c - n) W5 ho5 hne5 hit z5 hnb hcn
    rw [hld] at hr3
    have R3 := hide ho6
    have R4 := hide (hx5.keep t6 (by omega))
    have R5 := hide (B5.trans (t6.toBelow (fun k h => by omega) B5.size))
    clear ho6 t6 hs hnone ho5 hne5 hx5 B5 z5 hnb hld hit hcn hne6
    go_wp2_with (at_builtin; refine wpList_append_run rfl (.tmp 56) (.tmp 59) 22 rfl _ _ rfl rfl V3 W6 (by exact hr3) ?_)
    · obtain rfl : c = n := by omega
      go_meet
      exact ⟨R3.out, R4.out, R5.out⟩
    · go_meet
      exact ⟨R3.out, R4.out, R5.out⟩
  case rest =>
    obtain ⟨ho7, hx7, B7⟩ := hcut
    clear ho5 hne5 hx5 B5 z5 hnb hld
    obtain ⟨ad7, cp7, rfl, hi7⟩ := items_of_row ho7
    clear ho7
    have hwl : (xs.take n ++ [x] ++ xs.drop n).length = xs.length + 1 := by simp; omega
    have hwi := hide (imps_insert xs n x)
    have hwz : Hid (∀ y ∈ xs.take n ++ [x] ++ xs.drop n, y.t.size ≤ 140737488355328) := fun y hy => by
      simp only [List.mem_append, List.mem_singleton] at hy
      rcases hy with (hy | rfl) | hy
      · exact hz.out y (List.mem_of_mem_take hy)
      · exact hzx.out
      · exact hz.out y (List.mem_of_mem_drop hy)
    rw [hwl]
    generalize xs.take n ++ [x] ++ xs.drop n = ws at *
    go_wp2_with fail
    go_loopw [8, 9, 10] (fun t q i wr => ∃ (j : Nat), j ≤ xs.length ∧ i = .int .i64 j ∧ t = .int .i64 ((imps (xs.take j)).length : Nat) ∧ q = .int .i64 ((imps (xs.take (min j n))).length : Nat) ∧ Below wc.heap.size wc wr) (fun _ _ i _ => xs.length - (intOf i).toNat)
    case atStart => exact ⟨0, Nat.zero_le _, rfl, rfl, by simp [imps], Below.refl _ _⟩
    obtain ⟨j, hj, rfl, rfl, rfl, hb⟩ := hrel
    by_cases hlt : j < xs.length
    · have hnx := take_snoc xs j hlt It.zero
      obtain ⟨b, off, rfl, h0, h1, h2, h3, h4, h5⟩ := hs.below (below_chain B7 hb) j hlt
      have hcj : (imps (xs.take j)).length ≤ 10000000 := Nat.le_trans (imps_le _) (by rw [List.length_take]; omega)
      have hcm : (imps (xs.take (min j n))).length ≤ 10000000 := Nat.le_trans (imps_le _) (by rw [List.length_take]; omega)
      generalize xs.getD j It.zero = y at *
      go_wp2_with fail
      refine (wellFormed_any y wr).mono ?_
      rintro e W2' ⟨rfl, b2⟩
      have hb2 := below_chain hb b2
      have e5 : imps (xs.take (j + 1)) = if wfIt y then imps (xs.take j) ++ [impIt y] else imps (xs.take j) := by rw [hnx, imps_snoc]
      have e7 : ¬ j < n → min (j + 1) n = min j n := fun h => by omega
      have e8 : j < n → min (j + 1) n = j + 1 ∧ min j n = j := fun h => by omega
      clear hnx hb b2 h0 h1 h2 h3 h4 h5
      obtain ⟨q, hq⟩ : ∃ q, wfIt y = q := ⟨_, rfl⟩
      rw [hq] at e5 ⊢
      by_cases hjn : j < n
      · obtain ⟨m1, m2⟩ := e8 hjn
        rw [m2] at hcm ⊢
        cases q with
        | false =>
          rw [if_neg (by simp)] at e5
          go_wp2
          go_roundw
          case rel => exact ⟨j + 1, by omega, by go_num, by rw [e5], by rw [m1, e5], hb2⟩
          case measure => simp [intOf]; omega
        | true =>
          rw [if_pos rfl] at e5
          go_wp2
          go_roundw
          case rel => exact ⟨j + 1, by omega, by go_num, by rw [e5, List.length_append]; go_num, by rw [m1, e5, List.length_append]; go_num, hb2⟩
          case measure => simp [intOf]; omega
      · have m1 := e7 hjn
        cases q with
        | false =>
          rw [if_neg (by simp)] at e5
          go_wp2
          go_roundw
          case rel => exact ⟨j + 1, by omega, by go_num, by rw [e5], by rw [m1], hb2⟩
          case measure => simp [intOf]; omega
        | true =>
          rw [if_pos rfl] at e5
          go_wp2
          go_roundw
          case rel => exact ⟨j + 1, by omega, by go_num, by rw [e5, List.length_append]; go_num, by rw [m1], hb2⟩
          case measure => simp [intOf]; omega
    · rw [List.take_of_length_le (by omega), Nat.min_eq_right (by omega)]
      have B8 := below_chain B7 hb
      have hi8 := hi7.below hb
      have hx8 := hx7.keep (Touch.of_below (S := fun _ => False) hb) (by simp)
      clear hi7 hx7 hb B7
      go_wp2_with fail
      refine (dependencyOf_any a c xs wr (hs.below B8) (by omega)).mono ?_
      rintro e W2' ⟨d1, vs1, rfl, D1, E1, b2⟩
      go_wp2_with fail
      refine (imports_any _ d1 vs1 xs W2' D1 E1 hz.out (by omega)).mono ?_
      rintro e W3' ⟨O1, rfl, o1, b3⟩
      have bb := below_chain b2 b3
      have B9 := below_chain B8 bb
      have hi9 := hi8.below bb
      have hx9 := hx8.keep (Touch.of_below (S := fun _ => False) bb) (by simp)
      clear D1 E1 b2 b3 B8 hi8 hx8 bb
      go_wp2_with fail
      have hdep := dependencyOf_any ad7 cp7 ws W3' hi9 (by omega)
      rw [hwl] at hdep
      refine hdep.mono ?_
      rintro e W4' ⟨d2, vs2, rfl, D2, E2, b4⟩
      clear hdep
      go_wp2_with fail
      refine (imports_any _ d2 vs2 ws W4' D2 E2 hwz.out (by omega)).mono ?_
      rintro e W5' ⟨O2, rfl, o2, b5⟩
      have bb := below_chain b4 b5
      have B10 := below_chain B9 bb
      have hx10 := hx9.keep (Touch.of_below (S := fun _ => False) bb) (by simp)
      obtain ⟨ad1, cp1, rfl, f1'⟩ := imps_form o1
      obtain ⟨ad2, cp2, rfl, f2'⟩ := imps_form o2
      have f1 := hide (f1'.below bb)
      have f2 := hide f2'
      clear D2 E2 b4 b5 B9 hi9 hx9 bb o1 o2 f1' f2'
      obtain ⟨x0, x1, x2, x3, x4, x5⟩ := hx10.cells
      have hcut := hide (imps_cut xs n)
      have hl1 : (imps xs).length ≤ 1048576 := Nat.le_trans (imps_le _) hn
      have hwi : Hid (imps ws = imps (xs.take n) ++ ((if wfIt x then [impIt x] else []) ++ imps (xs.drop n))) := hwi
      generalize imps xs = l1 at *
      generalize imps ws = l2 at *
      generalize imps (xs.take n) = A at *
      generalize imps (xs.drop n) = C at *
      obtain ⟨q, hq⟩ : ∃ q, wfIt x = q := ⟨_, rfl⟩
      rw [hq] at hwi
      replace hq := hide hq
      have wfx := wellFormed_any x W5'
      rw [hq.out] at wfx
      replace wfx := hide wfx
      cases q with
      | false =>
        obtain rfl : l2 = l1 := by
          have h1 := hwi.out
          have h2 := hcut.out
          simp at h1
          rw [h1, h2]
        go_wp2_with fail
        refine wfx.out.mono ?_
        rintro e W6' ⟨rfl, b6⟩
        have B11 := below_chain B10 b6
        replace f1 := hide (f1.out.below b6)
        replace f2 := hide (f2.out.below b6)
        clear B10 b6 hx10 x0 x1 x2 x3 x4 x5 wfx hwi hcut
        go_wp2_with fail
        go_loopw [13] (fun i wx => ∃ (j : Nat), j ≤ l2.length ∧ i = .int .i64 j ∧ wx.heap = W6'.heap ∧ Below w.heap.size w wx) (fun i _ => l2.length - (intOf i).toNat)
        case atStart => exact ⟨0, Nat.zero_le _, rfl, rfl, B11⟩
        clear B11
        obtain ⟨j2, hj2, rfl, hh, hb⟩ := hrel
        by_cases hlt2 : j2 < l2.length
        · have hp2 : l2[j2]? = some l2[j2] := List.getElem?_eq_getElem hlt2
          obtain ⟨g1, rfl, c10, c11⟩ := (f1.out.heap hh) _ _ hp2
          obtain ⟨g2, rfl, c20, c21⟩ := (f2.out.heap hh) _ _ hp2
          have j0 : (0 : Int) ≤ j2 := by omega
          have j2' : (j2 : Int) < l2.length := by omega
          generalize l2[j2] = q at *
          obtain ⟨qa, qb⟩ := q
          clear hp2
          go_wp2
          go_quiet (fail)
          go_wp2
          go_roundw
          case rel => exact ⟨j2 + 1, by omega, by go_num, hh, ⟨hb.os, hb.tape, hb.output, hb.size, hb.block⟩⟩
          case measure => simp [intOf]; omega
        · go_wp2
          go_ret
          exact ⟨rfl, hb⟩
      | true =>
        have hall2 : Hid (l2 = A ++ (impIt x :: C)) := hwi.out
        have hlen1 : Hid (l1.length = A.length + C.length) := by
          show _ = _
          rw [hcut.out, List.length_append]
        have hlen2 : l2.length = l1.length + 1 := by rw [hall2.out, hlen1.out, List.length_append, List.length_cons]; omega
        rw [hlen2]
        replace hlen2 := hide hlen2
        clear hwi
        go_wp2_with fail
        refine wfx.out.mono ?_
        rintro e W6' ⟨rfl, b6⟩
        have B11 := below_chain B10 b6
        have hx11 := hx10.keep (Touch.of_below (S := fun _ => False) b6) (by simp)
        replace f1 := hide (f1.out.below b6)
        replace f2 := hide (f2.out.below b6)
        clear B10 b6 hx10 x0 x1 x2 x3 x4 x5 wfx
        go_wp2_with fail
        go_loopw [14] (fun i wx => ∃ (j : Nat), j ≤ A.length ∧ i = .int .i64 j ∧ wx.heap = W6'.heap ∧ Below w.heap.size w wx) (fun i _ => A.length - (intOf i).toNat)
        case atStart => exact ⟨0, Nat.zero_le _, rfl, rfl, B11⟩
        clear B11
        obtain ⟨j2, hj2, rfl, hh, hb⟩ := hrel
        by_cases hlt2 : j2 < A.length
        · have hpA : A[j2]? = some A[j2] := List.getElem?_eq_getElem hlt2
          have hp1 : l1[j2]? = some A[j2] := by rw [hcut.out, List.getElem?_append_left hlt2]; exact hpA
          have hp2 : l2[j2]? = some A[j2] := by rw [hall2.out, List.getElem?_append_left hlt2]; exact hpA
          obtain ⟨g1, rfl, c10, c11⟩ := (f1.out.heap hh) _ _ hp1
          obtain ⟨g2, rfl, c20, c21⟩ := (f2.out.heap hh) _ _ hp2
          have j0 : (0 : Int) ≤ j2 := by omega
          have j1 : (j2 : Int) < l1.length := by have := hlen1.out; omega
          have j2' : (j2 : Int) < l1.length + 1 := by omega
          generalize A[j2] = q at *
          obtain ⟨qa, qb⟩ := q
          clear hp1 hp2 hpA
          go_wp2
          go_quiet (fail)
          go_wp2
          go_roundw
          case rel => exact ⟨j2 + 1, by omega, by go_num, hh, ⟨hb.os, hb.tape, hb.output, hb.size, hb.block⟩⟩
          case measure => simp [intOf]; omega
        · replace f1 := hide (f1.out.heap hh)
          replace f2 := hide (f2.out.heap hh)
          have hx12 : XB wr w.heap.size x := by
            unfold XB
            rw [hh]
            exact hx11
          obtain ⟨x0, x1, x2, x3, x4, x5⟩ := hx12.cells
          have hpx : l2[A.length]? = some (impIt x) := by rw [hall2.out]; simp
          obtain ⟨g2, rfl, c20, c21⟩ := f2.out _ _ hpx
          have j0 : (0 : Int) ≤ A.length := by omega
          have j1 : (A.length : Int) < l1.length + 1 := by have := hlen1.out; omega
          have zx := hzx.out
          clear hx11 hx12 hh hpx
          go_wp2_with fail
          have BD := hb.drew
          have f1d : Hid (Imps wr.drew ad1 l1) := f1
          have f2d : Hid (Imps wr.drew (some ⟨g2, 0, none⟩) l2) := f2
          clear f1 f2 hb
          go_region_held3 (fun w' => w'.cell? ⟨g2, A.length * 2, none⟩ = some (.string (impIt x).1) ∧ w'.cell? ⟨g2, A.length * 2 + 1, none⟩ = some (.string (impIt x).2) ∧ w'.cell? ⟨w.heap.size, 0, none⟩ = some (.int .i64 x.k) ∧ w'.cell? ⟨w.heap.size, 1, none⟩ = some (.string x.t) ∧ w'.cell? ⟨w.heap.size, 2, none⟩ = some (.int .i64 x.ck) ∧ w'.cell? ⟨w.heap.size, 3, none⟩ = some (.string x.c) ∧ w'.cell? ⟨w.heap.size, 4, none⟩ = some (.int .i64 x.pk) ∧ w'.cell? ⟨w.heap.size, 5, none⟩ = some (.string x.p)) (first | exact ⟨c20, c21, x0, x1, x2, x3, x4, x5⟩ | exact ⟨k20, k21, k0, k1, k2, k3, k4, k5⟩)
            (first
              | (go_at_call 10; refine (zimportOf_any x wr.drew zx).mono ?_; rintro e w5 ⟨rfl, b5⟩; have k20 := cell_keep b5 (show wr.drew.cell? _ = _ from c20); have k21 := cell_keep b5 (show wr.drew.cell? _ = _ from c21); have k0 := cell_keep b5 (show wr.drew.cell? _ = _ from x0); have k1 := cell_keep b5 (show wr.drew.cell? _ = _ from x1); have k2 := cell_keep b5 (show wr.drew.cell? _ = _ from x2); have k3 := cell_keep b5 (show wr.drew.cell? _ = _ from x3); have k4 := cell_keep b5 (show wr.drew.cell? _ = _ from x4); have k5 := cell_keep b5 (show wr.drew.cell? _ = _ from x5); have B12 := below_chain BD b5; have F1 := hide (f1d.out.below b5); have F2 := hide (f2d.out.below b5)))
          clear x0 x1 x2 x3 x4 x5 k20 k21 k0 k1 k2 k3 k4 k5 c20 c21 f1d f2d BD b5
          go_wp2_with fail
          go_loopw [15] (fun i wx => ∃ (j : Nat), A.length ≤ j ∧ j ≤ l1.length ∧ i = .int .i64 j ∧ wx.heap = w5.heap ∧ Below w.heap.size w wx) (fun i _ => l1.length - (intOf i).toNat)
          case atStart => exact ⟨A.length, Nat.le_refl _, by omega, rfl, rfl, B12⟩
          clear B12
          obtain ⟨j3, hjA, hj3, rfl, hh, hb⟩ := hrel
          by_cases hlt3 : j3 < l1.length
          · have hp1 : l1[j3]? = some l1[j3] := List.getElem?_eq_getElem hlt3
            have hpC : C[j3 - A.length]? = some l1[j3] := by rw [← hp1, hcut.out, List.getElem?_append_right hjA]
            have hp2 : l2[j3 + 1]? = some l1[j3] := by
              rw [hall2.out, List.getElem?_append_right (by omega), show j3 + 1 - A.length = (j3 - A.length) + 1 from by omega, List.getElem?_cons_succ]
              exact hpC
            obtain ⟨g1, rfl, c10, c11⟩ := (F1.out.heap hh) _ _ hp1
            obtain ⟨g2', e2, c20, c21⟩ := (F2.out.heap hh) _ _ hp2
            cases e2
            have i0' : (0 : Int) ≤ j3 := by omega
            have i1' : (j3 : Int) < l1.length := by omega
            have i2' : (0 : Int) ≤ (j3 : Int) + 1 := by omega
            have i3' : (j3 : Int) + 1 < l1.length + 1 := by omega
            generalize l1[j3] = q at *
            obtain ⟨qa, qb⟩ := q
            clear hp1 hp2 hpC
            go_wp2
            go_quiet (fail)
            go_wp2
            go_roundw
            case rel => exact ⟨j3 + 1, by omega, by omega, by go_num, hh, ⟨hb.os, hb.tape, hb.output, hb.size, hb.block⟩⟩
            case measure => simp [intOf]; omega
          · go_wp2
            go_ret
            exact ⟨rfl, hb⟩

end Go.Proofs.Qxb6616159a
