import Derived.Test.Qxb6615949aG
namespace Go.Proofs.Qxb6615949a
open Go.RowKit

/-- The cells of a front door with nothing out. -/
def fdCells (pa pr mw : Nat) (t : Int) : Array Value :=
  #[.string { data := #[] }, .string { data := #[] }, .int .u64 0, .int .i64 0, .slice none 0 0, .pointer none, .pointer (some { block := pa, off := 0 }), .pointer (some { block := pr, off := 0 }), .int .u64 0,
    .pointer none, .slice none 0 0, .bool false, .bool false, .int .u64 t, .int .i64 0, .int .i64 0, .pointer none, .pointer none, .nilFunc, .int .u64 0, .int .u64 0, .int .u64 0, .map (some mw), .slice none 0 0, .int .u64 0, .nilFunc]

/-- The two livenesses share no block that either writes. -/
structure Apart (ra rr : LvR) : Prop where
  p : ra.p ≠ rr.p
  m : ra.ml ≠ rr.ml
  ll : ∀ g, ra.vl.ownBlock = some g → rr.vl.ownBlock ≠ some g
  li : ∀ g, ra.vl.ownBlock = some g → rr.vi.ownBlock ≠ some g
  il : ∀ g, ra.vi.ownBlock = some g → rr.vl.ownBlock ≠ some g

structure FDAt (w : World) (base f : Nat) (ra rr : LvR) (ids live keys ids' live' keys' : List ByteArray) : Prop where
  blk : ∃ mw t, w.heap[f]? = some (.cells (fdCells ra.p rr.p mw t) 87 (0, 0))
  acc : LvAt w base ra ids live keys
  rep : LvAt w base rr ids' live' keys'
  bf : base ≤ f
  ap : Apart ra rr

set_option maxHeartbeats 1000000 in
set_option maxRecDepth 100000 in
theorem newFD_raw (a1 a2 a3 a4 : Option Addr) (n1 n2 n3 n4 c1 c2 c3 c4 : Nat) (ml ml' : Nat) (t : Int) (w : World) :
    Calls Try.prog 26 #[.slice a1 n1 c1, .slice a2 n2 c2, .map (some ml), .slice a3 n3 c3, .slice a4 n4 c4, .map (some ml'), .int .u64 t, .slice none 0 0] w fun e w' => e = .returned (.pointer (some ⟨w.heap.size + 5, 0, none⟩)) ∧
      w' = (((((w.alloc (.map #[] 0)).alloc (.cells #[.slice a1 n1 c1, .map (some w.heap.size), .map (some ml), .slice a2 n2 c2] 77)).alloc (.map #[] 0)).alloc (.cells #[.slice a3 n3 c3, .map (some (w.heap.size + 2)), .map (some ml'), .slice a4 n4 c4] 77)).alloc (.map #[] 0)).alloc (.cells (fdCells (w.heap.size + 1) (w.heap.size + 3) (w.heap.size + 4) t) 87) := by
  have hmm := @run_makeMap Try.prog
  go_enter Try.func26, Try.ntmps26
  go_wp2
  go_ret
  exact ⟨rfl, rfl⟩

theorem heap_alloc_at (w : World) (o : Obj) (k : Nat) : (w.alloc o).heap[k]? = if k = w.heap.size then some o else w.heap[k]? := by
  show (w.heap.push o)[k]? = _
  rw [Array.getElem?_push]

theorem newFD_any (base : Nat) (vi vl vi' vl' : Value) (ml ml' : Nat) (t : Int) (ids live keys ids' live' keys' : List ByteArray) (w : World) (hb : base ≤ w.heap.size)
    (oi : w.ownsRow base 9 1 vi ids.length (ids.map Value.string)) (ol : w.ownsRow base 9 1 vl live.length (live.map Value.string)) (os : LostAt w ml keys)
    (oi' : w.ownsRow base 9 1 vi' ids'.length (ids'.map Value.string)) (ol' : w.ownsRow base 9 1 vl' live'.length (live'.map Value.string)) (os' : LostAt w ml' keys')
    (bm : base ≤ ml) (bm' : base ≤ ml') (hm : ml ≠ ml') (il : ∀ g, vi.ownBlock = some g → vl.ownBlock ≠ some g) (il' : ∀ g, vi'.ownBlock = some g → vl'.ownBlock ≠ some g)
    (ll : ∀ g, vl.ownBlock = some g → vl'.ownBlock ≠ some g) (li : ∀ g, vl.ownBlock = some g → vi'.ownBlock ≠ some g) (il2 : ∀ g, vi.ownBlock = some g → vl'.ownBlock ≠ some g) :
    Calls Try.prog 26 #[vi, vl, .map (some ml), vi', vl', .map (some ml'), .int .u64 t, .slice none 0 0] w fun e w' => ∃ f ra rr, e = .returned (.pointer (some ⟨f, 0, none⟩)) ∧ FDAt w' base f ra rr ids live keys ids' live' keys' ∧ Below w.heap.size w w' := by
  obtain ⟨a1, c1, rfl⟩ := own_shape oi
  obtain ⟨a2, c2, rfl⟩ := own_shape ol
  obtain ⟨a3, c3, rfl⟩ := own_shape oi'
  obtain ⟨a4, c4, rfl⟩ := own_shape ol'
  refine (newFD_raw a1 a2 a3 a4 _ _ _ _ c1 c2 c3 c4 ml ml' t w).mono ?_
  rintro e w' ⟨rfl, hw⟩
  have hbel : Below w.heap.size w w' := by
    subst hw
    repeat (first | exact Below.refl _ _ | refine Below.alloc ?_ (by simp <;> omega) _)
  have hT : Touch (fun _ => False) w w' := Touch.of_below hbel
  refine ⟨_, ⟨w.heap.size + 1, w.heap.size, ml, _, _⟩, ⟨w.heap.size + 3, w.heap.size + 2, ml', _, _⟩, rfl, ⟨⟨w.heap.size + 4, t, ?_⟩, ⟨?_, hT.own oi (by simp), hT.own ol (by simp), os.block (hT.block _ os.lt (by simp)), by show base ≤ w.heap.size + 1; omega, bm, il⟩,
    ⟨?_, hT.own oi' (by simp), hT.own ol' (by simp), os'.block (hT.block _ os'.lt (by simp)), by show base ≤ w.heap.size + 3; omega, bm', il'⟩, by omega, ⟨by show w.heap.size + 1 ≠ w.heap.size + 3; omega, hm, ll, li, il2⟩⟩, hbel⟩
  · subst hw; simp only [heap_alloc_at]; simp
  · subst hw; simp only [heap_alloc_at]; simp
  · subst hw; simp only [heap_alloc_at]; simp

theorem LvAt.not_door {w : World} {base : Nat} {r : LvR} {ids live keys : List ByteArray} (h : LvAt w base r ids live keys) {f : Nat} {cs : Array Value} (hf : w.heap[f]? = some (.cells cs 87 (0, 0))) : ¬ r.writes f := by
  rintro (rfl | rfl | hg)
  · rw [h.blk] at hf; simp at hf
  · obtain ⟨es, clock, h1, _⟩ := h.lost
    rw [h1] at hf; cases hf
  · obtain ⟨_, _, cur, hh⟩ := own_lt h.ol hg
    rw [hh] at hf; simp at hf

/-- Block k is neither the struct, nor the map, nor the live row of r. -/
theorem LvAt.other {w : World} {base : Nat} {r : LvR} {ids live keys : List ByteArray} (h : LvAt w base r ids live keys) : (∀ cs, w.heap[r.p]? ≠ some (.cells cs 9 (0, 0))) ∧ (∀ es cl, w.heap[r.p]? ≠ some (.map es cl)) ∧ (∀ cs e fr, w.heap[r.ml]? ≠ some (.cells cs e fr)) := by
  refine ⟨fun cs e => ?_, fun es cl e => ?_, fun cs t fr e => ?_⟩
  · rw [h.blk] at e; simp at e
  · rw [h.blk] at e; cases e
  · obtain ⟨es, clock, h1, _⟩ := h.lost
    rw [h1] at e; cases e

/-- What one liveness writes leaves the other as it was. -/
theorem LvAt.apart_core {w w' : World} {base : Nat} {r q : LvR} {ids live keys ids' live' keys' : List ByteArray} (h : LvAt w base r ids live keys) (hq : LvAt w base q ids' live' keys') (np : q.p ≠ r.p) (nm : q.ml ≠ r.ml)
    (nl : ∀ g, q.vl.ownBlock = some g → r.vl.ownBlock ≠ some g) (ni : ∀ g, q.vl.ownBlock = some g → r.vi.ownBlock ≠ some g) (t : Touch q.writes w w') : LvAt w' base r ids live keys := by
  have o := h.other
  have oq := hq.other
  refine h.kept t ?_ ?_ ?_ ?_
  · rintro (e | e | e)
    · exact np e.symm
    · exact oq.2.2 _ _ _ (e ▸ h.blk)
    · obtain ⟨_, _, cur, hh⟩ := own_lt hq.ol e
      exact o.1 _ hh
  · rintro (e | e | e)
    · exact o.2.2 _ _ _ (e ▸ hq.blk)
    · exact nm e.symm
    · obtain ⟨_, _, cur, hh⟩ := own_lt hq.ol e
      exact o.2.2 _ _ _ hh
  · intro g hg
    obtain ⟨_, _, cur, hh⟩ := own_lt h.oi hg
    rintro (e | e | e)
    · exact oq.1 _ (e ▸ hh)
    · exact oq.2.2 _ _ _ (e ▸ hh)
    · exact ni g e hg
  · intro g hg
    obtain ⟨_, _, cur, hh⟩ := own_lt h.ol hg
    rintro (e | e | e)
    · exact oq.1 _ (e ▸ hh)
    · exact oq.2.2 _ _ _ (e ▸ hh)
    · exact nl g e hg

theorem LvAt.apart {w w' : World} {base : Nat} {ra rr : LvR} {ids live keys ids' live' keys' : List ByteArray} (h : LvAt w base rr ids' live' keys') (ha : LvAt w base ra ids live keys) (ap : Apart ra rr) (t : Touch ra.writes w w') : LvAt w' base rr ids' live' keys' :=
  h.apart_core ha ap.p ap.m ap.ll ap.li t
theorem LvAt.apart' {w w' : World} {base : Nat} {ra rr : LvR} {ids live keys ids' live' keys' : List ByteArray} (h : LvAt w base ra ids live keys) (hr : LvAt w base rr ids' live' keys') (ap : Apart ra rr) (t : Touch rr.writes w w') : LvAt w' base ra ids live keys :=
  h.apart_core hr ap.p.symm ap.m.symm (fun g hg e => ap.ll g e hg) (fun g hg e => ap.il g e hg) t

def FDw (ra rr : LvR) (k : Nat) : Prop := ra.writes k ∨ rr.writes k

set_option maxHeartbeats 1000000 in
theorem lost_any (base f : Nat) (ra rr : LvR) (ids live keys ids' live' keys' : List ByteArray) (x : ByteArray) (w : World) (h : FDAt w base f ra rr ids live keys ids' live' keys') (hx : x.size ≤ maxLen) (hk : keys.length < maxLen) (hk' : keys'.length < maxLen) :
    Calls Try.prog 33 #[.pointer (some ⟨f, 0, none⟩), .string x] w fun e w' => e = .returned (.tuple #[]) ∧ ∃ v v', v.ownBlock = ra.vl.ownBlock ∧ v'.ownBlock = rr.vl.ownBlock ∧
      FDAt w' base f { ra with vl := v } { rr with vl := v' } ids (without live x) (keys ++ [x]) ids' (without live' x) (keys' ++ [x]) ∧ Touch (FDw ra rr) w w' := by
  obtain ⟨⟨mw, t, hblk⟩, hacc, hrep, hbf, hap⟩ := h
  have c6 : w.cell? ⟨f, 6, none⟩ = some (.pointer (some ⟨ra.p, 0, none⟩)) := by rw [World.cell?, hblk]; rfl
  have nfa := hacc.not_door hblk
  have nfr := hrep.not_door hblk
  go_enter Try.func33, Try.ntmps33
  go_wp2_with fail
  refine (lose_any base ra ids live keys x _ hacc hx hk).mono ?_
  rintro e w1 ⟨rfl, v, hv, h1, t1⟩
  have hblk1 := t1.obj hblk nfa
  have c7 : w1.cell? ⟨f, 7, none⟩ = some (.pointer (some ⟨rr.p, 0, none⟩)) := by rw [World.cell?, hblk1]; rfl
  have hrep1 := hrep.apart hacc hap t1
  have HV := hide hv
  clear hv
  go_wp2_with fail
  refine (lose_any base rr ids' live' keys' x _ hrep1 hx hk').mono ?_
  rintro e w2 ⟨rfl, v', hv', h2, t2⟩
  have hblk2 := t2.obj hblk1 nfr
  have c9 : w2.cell? ⟨f, 9, none⟩ = some (.pointer none) := by rw [World.cell?, hblk2]; rfl
  have c23 : w2.cell? ⟨f, 23, none⟩ = some (.slice none 0 0) := by rw [World.cell?, hblk2]; rfl
  have hap1 : Apart { ra with vl := v } rr := ⟨hap.p, hap.m, fun g hg => hap.ll g (HV.out ▸ hg), fun g hg => hap.li g (HV.out ▸ hg), hap.il⟩
  have hacc2 := h1.apart' hrep1 hap1 t2
  have FIN : Hid (FDAt w2 base f { ra with vl := v } { rr with vl := v' } ids (without live x) (keys ++ [x]) ids' (without live' x) (keys' ++ [x])) :=
    ⟨⟨mw, t, hblk2⟩, hacc2, h2, hbf, ⟨hap1.p, hap1.m, fun g hg => by show Value.ownBlock v' ≠ _; rw [hv']; exact hap1.ll g hg, hap1.li, fun g hg => by show Value.ownBlock v' ≠ _; rw [hv']; exact hap1.il g hg⟩⟩
  have FT : Hid (Touch (FDw ra rr) w w2) := (t1.mono (fun k h => .inl h)).trans (t2.mono (fun k h => .inr h))
  have HV' := hide hv'
  clear hv' hacc2 hap1 hrep1 hap h1 h2
  go_wp2
  refine wp_loop_rounds 1 ?_
  rw [rounds_succ]
  go_wp2
  go_end0
  exact ⟨rfl, v, v', HV.out, HV'.out, FIN.out, FT.out⟩

theorem zzlost_any (base f : Nat) (ra rr : LvR) (ids live keys ids' live' keys' : List ByteArray) (x : ByteArray) (w : World) (h : FDAt w base f ra rr ids live keys ids' live' keys') (hx : x.size ≤ maxLen) (hk : keys.length < maxLen) (hk' : keys'.length < maxLen) :
    Calls Try.prog 19 #[.pointer (some ⟨f, 0, none⟩), .string x] w fun e w' => e = .returned (.tuple #[]) ∧ ∃ v v', v.ownBlock = ra.vl.ownBlock ∧ v'.ownBlock = rr.vl.ownBlock ∧
      FDAt w' base f { ra with vl := v } { rr with vl := v' } ids (without live x) (keys ++ [x]) ids' (without live' x) (keys' ++ [x]) ∧ Touch (FDw ra rr) w w' := by
  go_enter Try.func19, Try.ntmps19
  go_wp2_with fail
  refine (lost_any base f ra rr ids live keys ids' live' keys' x _ h hx hk hk').mono ?_
  rintro e w' ⟨rfl, hh⟩
  go_wp2
  go_end0
  exact ⟨rfl, hh⟩

end Go.Proofs.Qxb6615949a
