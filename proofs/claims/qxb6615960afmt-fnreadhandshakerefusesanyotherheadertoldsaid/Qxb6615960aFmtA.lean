import Derived.Test.Qxb6615960aFmtRows
import Derived.WalkKit
import Derived.WalkSpells
import Derived.WalkLawsBesides
import Derived.Deep.QuietTactic
import Derived.BigQuiet
import Derived.Deep.RegionHeld3
import Derived.Deep.MidRow
import Derived.Deep.AppendLies
import Derived.Laws.CopyOwn
import Derived.Lib.AppendStr
namespace Go.Proofs.Qxb6615960aFmt
open Go.RowKit

/-- Bytes as cells. -/
def bs (l : List UInt8) : List Value := l.map fun b => Value.int .u8 b.toNat
theorem bs_length (l : List UInt8) : (bs l).length = l.length := by simp [bs]
theorem bs_one (l : List UInt8) : ∀ v ∈ bs l, v.oneCell' = true := by
  intro v hv
  obtain ⟨b, _, rfl⟩ := List.mem_map.1 hv
  rfl

theorem cell_lt {w : World} {a : Addr} {v : Value} (h : w.cell? a = some v) : a.block < w.heap.size := by
  rcases Nat.lt_or_ge a.block w.heap.size with h' | h'
  · exact h'
  · rw [World.cell?, Array.getElem?_eq_none h'] at h
    cases h
theorem hide {p : Prop} (h : p) : Hid p := h

/-- Only blocks of S have been written; new ones may be there. -/
structure Touch (S : Nat → Prop) (w w' : World) : Prop where
  os : w'.os = w.os
  tape : w'.tape = w.tape
  output : w'.output = w.output
  size : w.heap.size ≤ w'.heap.size
  block : ∀ k, k < w.heap.size → ¬ S k → w'.heap[k]? = w.heap[k]?

theorem Touch.refl (S : Nat → Prop) (w : World) : Touch S w w := ⟨rfl, rfl, rfl, Nat.le_refl _, fun _ _ _ => rfl⟩
theorem Touch.trans {S : Nat → Prop} {a b c : World} (h2 : Touch S a b) (h4 : Touch S b c) : Touch S a c :=
  ⟨h4.os.trans h2.os, h4.tape.trans h2.tape, h4.output.trans h2.output, Nat.le_trans h2.size h4.size, fun k hk hne => (h4.block k (Nat.lt_of_lt_of_le hk h2.size) hne).trans (h2.block k hk hne)⟩
theorem Touch.mono {S T : Nat → Prop} {a b : World} (h : Touch S a b) (hs : ∀ k, S k → T k) : Touch T a b :=
  ⟨h.os, h.tape, h.output, h.size, fun k hk hne => h.block k hk (fun h' => hne (hs k h'))⟩
theorem Touch.of_grown {S : Nat → Prop} {a b : World} {g : Option Nat} (h : a.grownBy b g) (hs : ∀ k, g = some k → S k) : Touch S a b :=
  ⟨h.os, h.tape, h.output, h.size, fun k hk hne => h.block k hk (fun e => hne (hs k e.symm))⟩
theorem Touch.of_below {S : Nat → Prop} {a b : World} (h : Below a.heap.size a b) : Touch S a b :=
  ⟨h.os, h.tape, h.output, h.size, fun k hk _ => h.block k hk⟩
theorem Touch.setCell {S : Nat → Prop} (w : World) (a : Addr) (v : Value) (h : S a.block) : Touch S w (w.setCell a v) :=
  ⟨rfl, rfl, rfl, by simp [World.setCell], fun k _ hne => Below.heap_setCell _ _ _ _ (fun e => hne (e ▸ h))⟩
theorem block_lt {w : World} {b : Nat} {o : Obj} (h : w.heap[b]? = some o) : b < w.heap.size := (Array.getElem?_eq_some_iff.1 h).1
theorem Touch.obj {S : Nat → Prop} {w w' : World} (h : Touch S w w') {b : Nat} {o : Obj} (hb : w.heap[b]? = some o) (hn : ¬ S b) : w'.heap[b]? = some o := (h.block b (block_lt hb) hn).trans hb
theorem Touch.toBelow {S : Nat → Prop} {w w' : World} {B : Nat} (t : Touch S w w') (hS : ∀ k, S k → B ≤ k) (hB : B ≤ w.heap.size) : Below B w w' :=
  ⟨t.os, t.tape, t.output, t.size, fun k hk => t.block k (by omega) (fun e => by have := hS k e; omega)⟩
theorem below_chain {w W W' : World} (h1 : Below w.heap.size w W) (h2 : Below W.heap.size W W') : Below w.heap.size w W' := h1.trans (h2.mono h1.size)

/-- The block holds the bytes L first. -/
def BytesIn (w : World) (g : Nat) (L : List UInt8) : Prop := ∃ cur t, w.heap[g]? = some (.cells cur t (0, 0)) ∧ cur.toList.take L.length = bs L
theorem BytesIn.cell {w : World} {g : Nat} {L : List UInt8} (h : BytesIn w g L) {j : Nat} {v : Value} (hj : (bs L)[j]? = some v) : w.cell? ⟨g, j, none⟩ = some v := by
  obtain ⟨cur, t, hb, hc⟩ := h
  have hlt : j < L.length := by have := (List.getElem?_eq_some_iff.1 hj).1; rwa [bs_length] at this
  rw [World.cell?, hb]
  rw [← hc, List.getElem?_take_of_lt hlt] at hj
  simpa using hj
theorem BytesIn.keep {S : Nat → Prop} {w w' : World} {g : Nat} {L : List UInt8} (h : BytesIn w g L) (t : Touch S w w') (hn : ¬ S g) : BytesIn w' g L := by
  obtain ⟨cur, ty, hb, hc⟩ := h
  exact ⟨cur, ty, t.obj hb hn, hc⟩

theorem Tryf.size5 : (Tryf.prog.info? 5).map (·.size) = some 1 := by kernel_rfl

theorem splice_all {α : Type} (Z X : List α) (h : Z.length = X.length) : splice Z 0 X = X := by
  simp [splice, ← h]

/-! ### 'copy' into a row of the call's own, the world behind it told by 'Touch' -/
section
variable {P : Program} {o : Oper} {a : Act} {w : World} {Q : Exit → Act → World → Prop}

theorem wp_copy_touch {K : Act → World → Prop} (d s : Operand) (dT sT : TypeId) (ho : o.op = .call { callee := .builtin .copy, args := #[d, s], argTypes := #[dT, sT] }) (elem : TypeId) (hu : P.underlying dT = some (.slice elem)) (hsz : (P.info? elem).map (·.size) = some 1)
    (g off dLen dCap : Nat) (ad : Addr) (sLen sCap : Nat) (hd : a.eval d = .slice (some ⟨g, off, none⟩) dLen dCap) (hs : a.eval s = .slice (some ad) sLen sCap)
    (cur : List Value) (t : TypeId) (hg : w.heap[g]? = some (.cells cur.toArray t (0, 0))) (cs : List Value) (m : Nat) (hm : cs.length = m) (hn : m = Nat.min sLen dLen)
    (hsrc : ∀ j v, cs[j]? = some v → w.cell? (ad.add j) = some v) (hfit : off + cs.length ≤ cur.length) (h1 : ∀ v ∈ cs, v.oneCell' = true)
    (h : ∀ w', w'.heap[g]? = some (.cells (splice cur off cs).toArray t (0, 0)) → Touch (fun k => k = g) w w' → K (a.put o.dst (goInt m)) w') : Oper.wp P o a w K Q := by
  subst hm
  have hrun := run_copy_row (P := P) w dT sT o.type elem g off dLen dCap ad sLen sCap cur.toArray t cs hu hsz hg hn hsrc (by simpa using hfit) h1
  unfold Oper.wp
  simp [execOp, ho, resolve, invoke, builtin, hd, hs, hrun, Result.andThen]
  exact h _ (by simpa [splice] using setRow_heap w g _ _ t _ hg) ⟨rfl, rfl, rfl, by simp [World.setRow], fun k _ hk => setRow_other w g k _ hk⟩

theorem wpList_copy_touch {ops : Array Oper} {rest : List Oper} (hgd : o.guard = none) (d s : Operand) (dT sT : TypeId) (ho : o.op = .call { callee := .builtin .copy, args := #[d, s], argTypes := #[dT, sT] }) (elem : TypeId) (hu : P.underlying dT = some (.slice elem)) (hsz : (P.info? elem).map (·.size) = some 1)
    (g off dLen dCap : Nat) (ad : Addr) (sLen sCap : Nat) (hd : a.eval d = .slice (some ⟨g, off, none⟩) dLen dCap) (hs : a.eval s = .slice (some ad) sLen sCap)
    (cur : List Value) (t : TypeId) (hg : w.heap[g]? = some (.cells cur.toArray t (0, 0))) (cs : List Value) (m : Nat) (hm : cs.length = m) (hn : m = Nat.min sLen dLen)
    (hsrc : ∀ j v, cs[j]? = some v → w.cell? (ad.add j) = some v) (hfit : off + cs.length ≤ cur.length) (h1 : ∀ v ∈ cs, v.oneCell' = true)
    (h : ∀ w', w'.heap[g]? = some (.cells (splice cur off cs).toArray t (0, 0)) → Touch (fun k => k = g) w w' → wpList P ops Q rest (a.put o.dst (goInt m)) w') : wpList P ops Q (o :: rest) a w :=
  wpList_plain hgd fun _ hK => wp_copy_touch d s dT sT ho elem hu hsz g off dLen dCap ad sLen sCap hd hs cur t hg cs m hm hn hsrc hfit h1 (fun w' h2 h3 => hK _ _ (h w' h2 h3))

theorem step_copy_touch {ops : Array Oper} {K : Act → World → Prop} {E : Prop} (hgd : o.guard = none) (d s : Operand) (dT sT : TypeId) (ho : o.op = .call { callee := .builtin .copy, args := #[d, s], argTypes := #[dT, sT] }) (elem : TypeId) (hu : P.underlying dT = some (.slice elem)) (hsz : (P.info? elem).map (·.size) = some 1)
    (g off dLen dCap : Nat) (ad : Addr) (sLen sCap : Nat) (hd : a.eval d = .slice (some ⟨g, off, none⟩) dLen dCap) (hs : a.eval s = .slice (some ad) sLen sCap)
    (cur : List Value) (t : TypeId) (hg : w.heap[g]? = some (.cells cur.toArray t (0, 0))) (cs : List Value) (m : Nat) (hm : cs.length = m) (hn : m = Nat.min sLen dLen)
    (hsrc : ∀ j v, cs[j]? = some v → w.cell? (ad.add j) = some v) (hfit : off + cs.length ≤ cur.length) (h1 : ∀ v ∈ cs, v.oneCell' = true)
    (h : ∀ w', w'.heap[g]? = some (.cells (splice cur off cs).toArray t (0, 0)) → Touch (fun k => k = g) w w' → K (a.put o.dst (goInt m)) w') :
    if Region.wanted o (yielded ops a.tmps) = true then Oper.wp P o a w K Q else E := by
  have hw : Region.wanted o (yielded ops a.tmps) = true := by simp [Region.wanted, hgd]
  rw [if_pos hw]
  exact wp_copy_touch d s dT sT ho elem hu hsz g off dLen dCap ad sLen sCap hd hs cur t hg cs m hm hn hsrc hfit h1 h
end

/-- The reader's block. -/
def rdr (g n c : Nat) (i : Int) : Array Value := #[.slice (some ⟨g, 0, none⟩) n c, .int .i64 i, .int .i64 (-1)]

set_option maxHeartbeats 2000000 in
set_option maxRecDepth 100000 in
theorem read_any (br g pb n c : Nat) (L : List UInt8) (cur : List Value) (t : TypeId) (w : World) (hr : w.heap[br]? = some (.cells (rdr g n c 0) 85 (0, 0))) (hL : BytesIn w g L) (hn : L.length = n) (h68 : 68 ≤ n)
    (hp : w.heap[pb]? = some (.cells cur.toArray t (0, 0))) (hcur : cur.length = 68) (n1 : pb ≠ br) (n3 : br ≠ g) :
    Calls Tryf.prog 61 #[.pointer (some ⟨br, 0, none⟩), .slice (some ⟨pb, 0, none⟩) 68 68] w fun e w' => e = .returned (.tuple #[.int .i64 68, .nilIface]) ∧
      w'.heap[pb]? = some (.cells (bs (L.take 68)).toArray t (0, 0)) ∧ w'.heap[br]? = some (.cells (rdr g n c 68) 85 (0, 0)) ∧ Touch (fun k => k = br ∨ k = pb) w w' := by
  have r0 : w.cell? ⟨br, 0, none⟩ = some (.slice (some ⟨g, 0, none⟩) n c) := by rw [World.cell?, hr]; rfl
  have r1 : w.cell? ⟨br, 1, none⟩ = some (.int .i64 0) := by rw [World.cell?, hr]; rfl
  have i1 : decide ((n : Int) ≤ 0) = false := decide_eq_false (by omega)
  have HN := hide hn
  have HC := hide hcur
  clear hn hcur
  go_enter Tryf.func61, Tryf.ntmps61
  go_wp2
  go_quiet (fail)
  have t1 : Touch (fun _ => False) w (w.drewN nq) := ⟨rfl, rfl, rfl, Nat.le_refl _, fun _ _ _ => rfl⟩
  have hr1 := t1.obj hr (by simp)
  have hL1 := hL.keep t1 (by simp)
  have hp1 := t1.obj hp (by simp)
  have T1 := hide t1
  clear r0 r1 t1 hr hL hp
  generalize w.drewN nq = W1 at *
  have r2 : W1.cell? ⟨br, 2, none⟩ = some (.int .i64 (-1)) := by rw [World.cell?, hr1]; rfl
  have f2 : W1.frozen? ⟨br, 2, none⟩ = false := by rw [World.frozen?, hr1]; rfl
  have hr2 : (W1.setCell ⟨br, 2, none⟩ (.int .i64 (-1))).heap[br]? = some (.cells (rdr g n c 0) 85 (0, 0)) := heap_setCell_same W1 br 2 _ 85 _ hr1
  have t2 := Touch.setCell (S := fun k => k = br) W1 ⟨br, 2, none⟩ (.int .i64 (-1)) rfl
  have hL2 := hL1.keep t2 (fun e => n3 e.symm)
  have hp2 := t2.obj hp1 n1
  have T2 := hide t2
  clear t2 hr1 hL1 hp1
  go_wp2
  generalize W1.setCell ⟨br, 2, none⟩ (.int .i64 (-1)) = W2 at *
  have r0 : W2.drew.cell? ⟨br, 0, none⟩ = some (.slice (some ⟨g, 0, none⟩) n c) := by rw [World.cell?_drew, World.cell?, hr2]; rfl
  have r1 : W2.drew.cell? ⟨br, 1, none⟩ = some (.int .i64 0) := by rw [World.cell?_drew, World.cell?, hr2]; rfl
  have hcs : ∀ j v, (bs (L.take 68))[j]? = some v → W2.drew.cell? ((⟨g, 0, none⟩ : Addr).add j) = some v := by
    intro j v hj
    rw [Addr.add_mid, Nat.zero_add, World.cell?_drew]
    refine hL2.cell ?_
    rw [bs, List.map_take] at hj
    rw [← hj]
    exact (List.getElem?_take_of_lt (by have := (List.getElem?_eq_some_iff.1 hj).1; rw [List.length_take] at this; omega)).symm
  have hl68 : (bs (L.take 68)).length = 68 := by rw [bs_length, List.length_take, HN.out]; omega
  have HL := hide hl68
  clear hl68
  go_region_held3 (fun w' => w'.cell? ⟨br, 0, none⟩ = some (.slice (some ⟨g, 0, none⟩) n c) ∧ w'.cell? ⟨br, 1, none⟩ = some (.int .i64 0))
    (first | go_keep | exact ⟨k0, k1⟩)
    ((refine step_copy_touch (by rfl) (.tmp 20) (.tmp 29) 22 22 (by rfl) 5 Tryf.underlying22 Tryf.size5 pb 0 68 68 ⟨g, 0, none⟩ n c (by rfl) (by rfl) cur t (by exact hp2) (bs (L.take 68)) 68 HL.out (Nat.min_eq_right h68).symm hcs (by rw [HL.out, HC.out]; omega) (bs_one _) ?_; intro W3 hg3 t3; have hr3 : W3.heap[br]? = some (.cells (rdr g n c 0) 85 (0, 0)) := t3.obj (w := W2.drew) hr2 n1.symm; have k0 : W3.cell? ⟨br, 0, none⟩ = some (.slice (some ⟨g, 0, none⟩) n c) := by { rw [World.cell?, hr3]; rfl }; have k1 : W3.cell? ⟨br, 1, none⟩ = some (.int .i64 0) := by { rw [World.cell?, hr3]; rfl }))
  have f1 : W3.frozen? ⟨br, 1, none⟩ = false := by rw [World.frozen?, hr3]; rfl
  have hr4 : (W3.setCell ⟨br, 1, none⟩ (.int .i64 68)).heap[br]? = some (.cells (rdr g n c 68) 85 (0, 0)) := heap_setCell_same W3 br 1 _ 85 _ hr3
  have t4 := Touch.setCell (S := fun k => k = br) W3 ⟨br, 1, none⟩ (.int .i64 68) rfl
  rw [splice_all _ _ (HC.out.trans HL.out.symm)] at hg3
  have hg4 := t4.obj hg3 n1
  have FT : Hid (Touch (fun k => k = br ∨ k = pb) w (W3.setCell ⟨br, 1, none⟩ (.int .i64 68))) :=
    ((T1.out.mono (by simp)).trans (T2.out.mono (fun k h => .inl h))).trans (((⟨rfl, rfl, rfl, Nat.le_refl _, fun _ _ _ => rfl⟩ : Touch (fun k => k = br ∨ k = pb) W2 W2.drew).trans (t3.mono (fun k h => .inr h))).trans (t4.mono (fun k h => .inl h)))
  have HR := hide hr4
  have HG := hide hg4
  clear hr4 hg4 t4 hg3 hr3 t3 hr2
  go_wp2
  go_ret2
  exact ⟨rfl, HG.out, HR.out, FT.out⟩

/-- The kit has no law on this: a method value's receiver behind an interface value is no nil pointer. -/
theorem nilAhead_read (a : Addr) (w : World) : (nilAhead 229 68 (.pointer (some a)) "Read").run Tryf.prog w = .ok (some false) w := by kernel_rfl

theorem method_read (a : Addr) (w : World) : (method 229 68 (.pointer (some a)) "Read").run Tryf.prog w = .ok (61, .pointer (some a)) w := by kernel_rfl

set_option maxHeartbeats 2000000 in
set_option maxRecDepth 100000 in
theorem readAtLeast_any (br g pb n c : Nat) (L : List UInt8) (cur : List Value) (t : TypeId) (w : World) (hr : w.heap[br]? = some (.cells (rdr g n c 0) 85 (0, 0))) (hL : BytesIn w g L) (hn : L.length = n) (h68 : 68 ≤ n)
    (hp : w.heap[pb]? = some (.cells cur.toArray t (0, 0))) (hcur : cur.length = 68) (n1 : pb ≠ br) (n3 : br ≠ g) :
    Calls Tryf.prog 42 #[.iface 68 (.pointer (some ⟨br, 0, none⟩)), .slice (some ⟨pb, 0, none⟩) 68 68, .int .i64 68] w fun e w' => e = .returned (.tuple #[.int .i64 68, .nilIface]) ∧
      w'.heap[pb]? = some (.cells (bs (L.take 68)).toArray t (0, 0)) ∧ w'.heap[br]? = some (.cells (rdr g n c 68) 85 (0, 0)) ∧ Touch (fun k => k = br ∨ k = pb) w w' := by
  have HN := hide hn
  have HC := hide hcur
  clear hn hcur
  have hna := nilAhead_read ⟨br, 0, none⟩
  have hmd := method_read ⟨br, 0, none⟩
  go_enter Tryf.func42, Tryf.ntmps42
  go_wp2
  refine wp_loop_rounds 2 ?_
  rw [rounds_succ]
  go_wp2_with fail
  go_region_held3 (fun _ => True) (trivial)
    (first | (go_at_call 61; refine (read_any br g pb n c L cur t w.drew hr hL HN.out h68 hp HC.out n1 n3).mono ?_; rintro e W1 ⟨rfl, g1, g2, t1⟩))
  have FT : Hid (Touch (fun k => k = br ∨ k = pb) w W1) := (⟨rfl, rfl, rfl, Nat.le_refl _, fun _ _ _ => rfl⟩ : Touch (fun k => k = br ∨ k = pb) w w.drew).trans t1
  have G1 := hide g1
  have G2 := hide g2
  clear g1 g2 t1
  go_wp2
  rw [rounds_succ]
  go_wp2
  go_ret2
  exact ⟨rfl, G1.out, G2.out, FT.out⟩

end Go.Proofs.Qxb6615960aFmt
