import Derived.Test.Qxb6615949aF
namespace Go.Proofs.Qxb6615949a
open Go.RowKit

/-- Only blocks of S have been written; new ones may be there. -/
structure Touch (S : Nat → Prop) (w w' : World) : Prop where
  os : w'.os = w.os
  tape : w'.tape = w.tape
  output : w'.output = w.output
  size : w.heap.size ≤ w'.heap.size
  block : ∀ k, k < w.heap.size → ¬ S k → w'.heap[k]? = w.heap[k]?

theorem Touch.refl (S : Nat → Prop) (w : World) : Touch S w w := ⟨rfl, rfl, rfl, Nat.le_refl _, fun _ _ _ => rfl⟩
theorem Touch.trans {S : Nat → Prop} {a b c : World} (h2 : Touch S a b) (h4 : Touch S b c) : Touch S a c :=
  ⟨h4.os.trans h2.os, h4.tape.trans h2.tape, h4.output.trans h2.output, Nat.le_trans h2.size h4.size, fun k hk hne => (h4.block k (Nat.lt_of_lt_of_le hk h2.size) hne).trans (h2.block k hk hne)⟩
theorem Touch.mono {S T : Nat → Prop} {a b : World} (h : Touch S a b) (hs : ∀ k, S k → T k) : Touch T a b :=
  ⟨h.os, h.tape, h.output, h.size, fun k hk hne => h.block k hk (fun h' => hne (hs k h'))⟩
theorem Touch.of_grown {S : Nat → Prop} {a b : World} {g : Option Nat} (h : a.grownBy b g) (hs : ∀ k, g = some k → S k) : Touch S a b :=
  ⟨h.os, h.tape, h.output, h.size, fun k hk hne => h.block k hk (fun e => hne (hs k e.symm))⟩
theorem Touch.of_below {S : Nat → Prop} {a b : World} (h : Below a.heap.size a b) : Touch S a b :=
  ⟨h.os, h.tape, h.output, h.size, fun k hk _ => h.block k hk⟩
theorem Touch.alloc (S : Nat → Prop) (w : World) (o : Obj) : Touch S w (w.alloc o) := Touch.of_below ((Below.refl _ _).alloc (Nat.le_refl _) _)
theorem Touch.setCell {S : Nat → Prop} (w : World) (a : Addr) (v : Value) (h : S a.block) : Touch S w (w.setCell a v) :=
  ⟨rfl, rfl, rfl, by simp [World.setCell], fun k _ hne => Below.heap_setCell _ _ _ _ (fun e => hne (e ▸ h))⟩
theorem Touch.cell {S : Nat → Prop} {w w' : World} (h : Touch S w w') {a : Addr} {v : Value} (hc : w.cell? a = some v) (hn : ¬ S a.block) : w'.cell? a = some v := by
  rw [World.cell?_of_block (w := w) (h.block _ (cell_lt hc) hn)]; exact hc

theorem block_lt {w : World} {b : Nat} {o : Obj} (h : w.heap[b]? = some o) : b < w.heap.size := (Array.getElem?_eq_some_iff.1 h).1
theorem Touch.obj {S : Nat → Prop} {w w' : World} (h : Touch S w w') {b : Nat} {o : Obj} (hb : w.heap[b]? = some o) (hn : ¬ S b) : w'.heap[b]? = some o := (h.block b (block_lt hb) hn).trans hb

theorem own_lt {w : World} {base e n : Nat} {v : Value} {xs : List Value} (h : w.ownsRow base e 1 v n xs) {g : Nat} (hg : v.ownBlock = some g) : g < w.heap.size ∧ base ≤ g ∧ ∃ cur, w.heap[g]? = some (.cells cur e (0, 0)) := by
  rcases h.2 with ⟨rfl, _⟩ | ⟨g', cap, cur, rfl, hb, hh, _⟩
  · simp [Value.ownBlock] at hg
  · simp [Value.ownBlock] at hg
    subst hg
    exact ⟨block_lt hh, hb, cur, hh⟩

theorem own_shape {w : World} {base e n : Nat} {v : Value} {xs : List Value} (h : w.ownsRow base e 1 v n xs) : ∃ a c, v = .slice a n c := by
  rcases h.2 with ⟨rfl, rfl⟩ | ⟨g', cap, cur, rfl, _⟩
  · exact ⟨_, _, rfl⟩
  · exact ⟨_, _, rfl⟩

theorem Touch.own {S : Nat → Prop} {w w' : World} (h : Touch S w w') {base e n : Nat} {v : Value} {xs : List Value} (ho : w.ownsRow base e 1 v n xs) (hn : ∀ g, v.ownBlock = some g → ¬ S g) : w'.ownsRow base e 1 v n xs := by
  refine ⟨ho.1, ?_⟩
  rcases ho.2 with h' | ⟨g', cap, cur, rfl, hb, hh, r⟩
  · exact .inl h'
  · exact .inr ⟨g', cap, cur, rfl, hb, h.obj hh (hn g' rfl), r⟩

/-- slices.DeleteFunc(s, func(live string) bool { return live == x }), s one of the call's own. -/
theorem deleteFunc_any (base bx : Nat) (v : Value) (ss : List ByteArray) (x : ByteArray) (w : World) (hown : w.ownsRow base 9 1 v ss.length (ss.map Value.string)) (hbx : w.cell? ⟨bx, 0, none⟩ = some (.string x)) (hne : v.ownBlock ≠ some bx) :
    Calls Try.prog 57 #[v, .func (.func 58) #[] #[.pointer (some ⟨bx, 0, none⟩)]] w fun e w' => ∃ v', e = .returned v' ∧ w'.ownsRow base 9 1 v' (without ss x).length ((without ss x).map Value.string) ∧ v'.ownBlock = v.ownBlock ∧ w.grownBy w' v.ownBlock := by
  rcases hown.2 with ⟨rfl, hl⟩ | ⟨g, cap, cur, rfl, hb, hh, r1, r2, r3, r4⟩
  · have e : ss = [] := List.eq_nil_of_length_eq_zero hl
    subst e
    refine (deleteFunc_none none 0 bx [] x w (fun i h => by simp at h) (by simp) hbx (by simp)).mono ?_
    rintro e w' ⟨rfl, rfl⟩
    exact ⟨_, rfl, hown, rfl, World.grownBy.refl _ _⟩
  · by_cases hx : x ∈ ss
    · refine (deleteFunc_some base g cap bx ss x w hown (by unfold maxLen at r2; omega) r1 hbx (fun e => hne (by simp [Value.ownBlock, e])) hx).mono ?_
      rintro e w' ⟨rfl, h1, h2⟩
      exact ⟨_, rfl, h1, rfl, h2⟩
    · refine (deleteFunc_none (some ⟨g, 0, none⟩) cap bx ss x w (Strs.of_own hown).1 (by unfold maxLen at r2; omega) hbx hx).mono ?_
      rintro e w' ⟨rfl, rfl⟩
      rw [without_of_not_mem hx]
      exact ⟨_, rfl, hown, rfl, World.grownBy.refl _ _⟩

/-- Where one liveness lies. -/
structure LvR where
  p : Nat
  mh : Nat
  ml : Nat
  vi : Value
  vl : Value

def LvR.writes (r : LvR) (k : Nat) : Prop := k = r.p ∨ k = r.ml ∨ r.vl.ownBlock = some k

/-- The liveness r holds the ids, the live ones, the lost keys. -/
structure LvAt (w : World) (base : Nat) (r : LvR) (ids live keys : List ByteArray) : Prop where
  blk : w.heap[r.p]? = some (.cells #[r.vi, .map (some r.mh), .map (some r.ml), r.vl] 77 (0, 0))
  oi : w.ownsRow base 9 1 r.vi ids.length (ids.map Value.string)
  ol : w.ownsRow base 9 1 r.vl live.length (live.map Value.string)
  lost : LostAt w r.ml keys
  bp : base ≤ r.p
  bm : base ≤ r.ml
  ap : ∀ g, r.vi.ownBlock = some g → r.vl.ownBlock ≠ some g

theorem LvAt.kept {w w' : World} {base : Nat} {r : LvR} {ids live keys : List ByteArray} (h : LvAt w base r ids live keys) {S : Nat → Prop} (ht : Touch S w w') (h1 : ¬ S r.p) (h2 : ¬ S r.ml) (h3 : ∀ g, r.vi.ownBlock = some g → ¬ S g) (h4 : ∀ g, r.vl.ownBlock = some g → ¬ S g) : LvAt w' base r ids live keys :=
  ⟨ht.obj h.blk h1, ht.own h.oi h3, ht.own h.ol h4, h.lost.block (ht.block _ h.lost.lt h2), h.bp, h.bm, h.ap⟩

set_option maxHeartbeats 1000000 in
set_option maxRecDepth 100000 in
theorem lose_any (base : Nat) (r : LvR) (ids live keys : List ByteArray) (x : ByteArray) (w : World) (h : LvAt w base r ids live keys) (hx : x.size ≤ maxLen) (hk : keys.length < maxLen) :
    Calls Try.prog 43 #[.pointer (some ⟨r.p, 0, none⟩), .string x] w fun e w' => e = .returned (.tuple #[]) ∧ ∃ v', v'.ownBlock = r.vl.ownBlock ∧ LvAt w' base { r with vl := v' } ids (without live x) (keys ++ [x]) ∧ Touch r.writes w w' := by
  obtain ⟨p, mh, ml, vi, vl⟩ := r
  obtain ⟨hblk, hoi, hol, hlost, hbp, hbm, hap⟩ := h
  simp only at hblk hoi hol hlost hbp hbm hap
  have npm : p ≠ ml := by
    rintro rfl
    obtain ⟨es, clock, h1, _⟩ := hlost
    rw [h1] at hblk; cases hblk
  have nim : ∀ {v : Value} {n : Nat} {xs : List Value}, w.ownsRow base 9 1 v n xs → ∀ g, v.ownBlock = some g → g ≠ ml ∧ g ≠ p := by
    intro v n xs ho g hg
    obtain ⟨_, _, cur, hh⟩ := own_lt ho hg
    refine ⟨?_, ?_⟩
    · rintro rfl
      obtain ⟨es, clock, h1, _⟩ := hlost
      rw [h1] at hh; cases hh
    · rintro rfl
      rw [hblk] at hh
      simp at hh
  have t1 : Touch (fun _ => False) w (w.alloc (.cells #[.string x] 9)).drew := ⟨rfl, rfl, rfl, by simp, fun k hk _ => Below.heap_alloc _ _ _ hk⟩
  obtain ⟨w3, hrun, hlost3, hg3⟩ := (hlost.block (t1.block _ hlost.lt (by simp))).put hk hx
  have t3 : Touch (fun k => k = ml) w w3 := (t1.mono (by simp)).trans (Touch.of_grown hg3 (fun k h => by cases h; rfl))
  have c2 : (w.alloc (.cells #[.string x] 9)).cell? ⟨p, 2, none⟩ = some (.map (some ml)) := by
    rw [World.cell?, Below.heap_alloc _ _ _ (block_lt hblk), hblk]; rfl
  have c3 : w3.cell? ⟨p, 3, none⟩ = some vl := by rw [World.cell?, t3.obj hblk npm]; rfl
  have cb : w3.cell? ⟨w.heap.size, 0, none⟩ = some (.string x) := by
    have hb0 : (w.alloc (.cells #[.string x] 9)).drew.heap[w.heap.size]? = some (.cells #[.string x] 9) := heap_alloc_new w _
    rw [World.cell?, hg3.block w.heap.size (block_lt hb0) (by have := hlost.lt; intro e; cases e; omega), hb0]; rfl
  have hol3 := t3.own hol (fun g hg => (nim hol g hg).1)
  have hnb : vl.ownBlock ≠ some w.heap.size := fun e => by have := (own_lt hol e).1; omega
  have HG := hide hg3
  clear hg3
  go_enter Try.func43, Try.ntmps43
  go_wp2
  go_region
  go_wp2_with fail
  refine (deleteFunc_any base w.heap.size vl live x _ hol3 cb hnb).mono ?_
  rintro e w4 ⟨v', rfl, hol4, hob, hg4⟩
  have t4 : Touch (fun k => vl.ownBlock = some k) w3 w4 := Touch.of_grown hg4 (fun k h => h)
  have hblk4 := t4.obj (t3.obj hblk npm) (fun e => (nim hol p e).2 rfl)
  have c4 : w4.cell? ⟨p, 3, none⟩ = some vl := by rw [World.cell?, hblk4]; rfl
  have f4 : w4.frozen? ⟨p, 3, none⟩ = false := by rw [World.frozen?, hblk4]; rfl
  obtain ⟨a', c', rfl⟩ := own_shape hol4
  have t5 := Touch.setCell (S := fun k => k = p) w4 ⟨p, 3, none⟩ (.slice a' (without live x).length c') rfl
  have hblk5 := heap_setCell_same w4 p 3 _ 77 (.slice a' (without live x).length c') hblk4
  have hol5 := t5.own hol4 (fun g hg => by rw [hob] at hg; exact (nim hol g hg).2)
  have hoi5 := t5.own (t4.own (t3.own hoi (fun g hg => (nim hoi g hg).1)) (fun g hg => hap g hg)) (fun g hg => (nim hoi g hg).2)
  have hlost5 := (hlost3.block (t4.block _ hlost3.lt (fun e => (nim hol ml e).1 rfl))).block (t5.block _ ((hlost3.block (t4.block _ hlost3.lt (fun e => (nim hol ml e).1 rfl))).lt) (fun e => npm e.symm))
  have FIN : Hid (LvAt (w4.setCell ⟨p, 3, none⟩ (.slice a' (without live x).length c')) base ⟨p, mh, ml, vi, .slice a' (without live x).length c'⟩ ids (without live x) (keys ++ [x])) :=
    ⟨hblk5, hoi5, hol5, hlost5, hbp, hbm, fun g hg => by show Value.ownBlock _ ≠ _; rw [hob]; exact hap g hg⟩
  have FT : Hid (Touch (LvR.writes ⟨p, mh, ml, vi, vl⟩) w (w4.setCell ⟨p, 3, none⟩ (.slice a' (without live x).length c'))) :=
    ((t3.mono (fun k h => .inr (.inl h))).trans (t4.mono (fun k h => .inr (.inr h)))).trans (t5.mono (fun k h => .inl h))
  have HOB := hide hob
  clear hob hg4 hblk5 hol5 hoi5 hlost5 t5
  go_wp2
  go_end0
  exact ⟨rfl, _, HOB.out, FIN.out, FT.out⟩

end Go.Proofs.Qxb6615949a
