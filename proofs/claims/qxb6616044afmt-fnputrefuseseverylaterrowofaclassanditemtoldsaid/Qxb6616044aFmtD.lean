import Derived.Test.Qxb6616044aFmtC
import Derived.Deep.DeepCutAuto
import Derived.Maps.AppendAt
import Derived.Deep.AppendLies
import Derived.Deep.RegionLaw
namespace Go.Proofs.Qxb6616044aFmt
open Go.RowKit Go.Extern.Stop Go.Stop Go.Extern
set_option linter.unusedSimpArgs false

theorem get_alloc (w : World) (o : Obj) (k : Nat) : (w.alloc o).heap[k]? = if k = w.heap.size then some o else w.heap[k]? := by
  show (w.heap.push o)[k]? = _
  rw [Array.getElem?_push]
theorem alloc_size (w : World) (o : Obj) : (w.alloc o).heap.size = w.heap.size + 1 := by simp
theorem get_size (f : ByteArray → Option Int) (ss : List ByteArray) (s : ByteArray) {n : Nat} (hz : ∀ s ∈ ss, s.size ≤ n) : (colGet f ss s).size ≤ n := by
  unfold colGet
  cases f s with
  | none => exact Nat.zero_le _
  | some i =>
    show (ss.getD i.toNat ByteArray.empty).size ≤ n
    by_cases h : i.toNat < ss.length
    · rw [List.getD_eq_getElem?_getD, List.getElem?_eq_getElem h]
      exact hz _ (List.getElem_mem _)
    · rw [List.getD_eq_getElem?_getD, List.getElem?_eq_none (by omega)]
      exact Nat.zero_le _
theorem get_drew (w : World) (k : Nat) : w.drew.heap[k]? = w.heap[k]? := rfl

theorem at3a (w : World) (a b c : Obj) : (((w.alloc a).alloc b).alloc c).drew.heap[w.heap.size]? = some a := by
  simp only [get_drew, get_alloc, alloc_size]
  rw [if_neg (by omega), if_neg (by omega), if_pos trivial]
theorem at3b (w : World) (a b c : Obj) : (((w.alloc a).alloc b).alloc c).drew.heap[w.heap.size + 1]? = some b := by
  simp only [get_drew, get_alloc, alloc_size]
  rw [if_neg (by omega), if_pos trivial]
theorem at3c (w : World) (a b c : Obj) : (((w.alloc a).alloc b).alloc c).drew.heap[w.heap.size + 1 + 1]? = some c := by
  simp only [get_drew, get_alloc, alloc_size]
  rw [if_pos trivial]

def keysOf (G : List Ent) : List Value := G.flatMap fun e => [.string e.c, .string e.i]
/-- Block r is a result of fund that has taken G, in this order. All its blocks lie at B or above. -/
def Res (B : Nat) (w : World) (r : Nat) (fund : ByteArray) (G : List Ent) : Prop :=
  ∃ (lb mv mf : Nat) (O d1 d2 d3 d4 : Value), (B ≤ r ∧ B ≤ lb ∧ B ≤ mv ∧ B ≤ mf ∧ mv ≠ mf) ∧
    w.heap[r]? = some (.cells #[.string fund, d1, d2, d3, d4, .map (some mv), .pointer (some ⟨lb, 0, none⟩), O] 56 (0, 0)) ∧
    w.heap[lb]? = some (.cells #[.int .i64 0, .string ⟨#[]⟩, .map (some mf)] 49 (0, 0)) ∧
    Held w mv valR G ∧ Held w mf lineR G ∧ w.ownsRow B 61 2 O G.length (keysOf G)

theorem row_keep {B n : Nat} {O : Value} {xs : List Value} {S : Nat → Prop} {w w' : World} (h : w.ownsRow B 61 2 O n xs) (t : Touch S w w') (hS : ∀ k cs, w.heap[k]? = some (.cells cs 61 (0, 0)) → ¬ S k) : w'.ownsRow B 61 2 O n xs := by
  obtain ⟨h1, h2⟩ := h
  refine ⟨h1, ?_⟩
  rcases h2 with h2 | ⟨g, cap, cur, hv, hb, hh, r⟩
  · exact .inl h2
  · exact .inr ⟨g, cap, cur, hv, hb, t.obj hh (hS g cur hh), r⟩

theorem step_append_run {P : Program} {ops : Array Oper} {o : Oper} {a : Act} {w : World} {K : Act → World → Prop} {Q : Exit → Act → World → Prop} {E : Prop} (hgd : o.guard = none) (s x : Operand) (t : TypeId)
    (ho : o.op = .call { callee := .builtin .append, args := #[s, x], argTypes := #[t, t] }) (u v : Value) (hs : a.eval s = u) (hx : a.eval x = v) (v' : Value) (w' : World) (hrun : (Builtin.append_ #[t, t] o.type #[u, v]).run P w = .ok v' w')
    (h : K (a.put o.dst v') w') : if Region.wanted o (yielded ops a.tmps) = true then Oper.wp P o a w K Q else E := by
  have hw : Region.wanted o (yielded ops a.tmps) = true := by simp [Region.wanted, hgd]
  rw [if_pos hw]
  unfold Oper.wp
  simp [execOp, ho, resolve, invoke, builtin, hs, hx, hrun, Result.andThen]
  exact h
theorem own_cells {w : World} {B n : Nat} {O : Value} {xs : List Value} (h : w.ownsRow B 61 2 O n xs) : ∀ k, O.ownBlock = some k → ∃ cs, w.heap[k]? = some (.cells cs 61 (0, 0)) := by
  intro k e
  obtain ⟨_, h⟩ := h
  rcases h with ⟨h, _⟩ | ⟨g, cap, cur, h, _, hh, _⟩
  · rw [h] at e; cases e
  · rw [h] at e
    cases e
    exact ⟨cur, hh⟩
theorem Tryf.info61 : (Tryf.prog.info? 61).map (fun i => (i.zero, i.size, i.bytes)) = some (some (.agg #[.string ⟨#[]⟩, .string ⟨#[]⟩]), 2, 32) := by kernel_rfl
set_option maxRecDepth 100000 in
set_option maxHeartbeats 4000000 in
theorem put_new {H : Type} (w0 : World) (r : Nat) (fund : ByteArray) (G : List Ent) (l : Int) (m : Option Nat) (f : ByteArray → Option Int) (a : Option Addr) (n : Nat) (ss : List ByteArray) (w : World) (hw0 : Below w0.heap.size w0 w) (hR : Res w0.heap.size w r fund G) (hcl : Cols H w0 m f) (hss : Strs w0 a ss)
    (h1 : fits f ss ⟨#[99, 108, 97, 115, 115]⟩ = true) (h2 : fits f ss ⟨#[105, 116, 101, 109]⟩ = true) (h3 : fits f ss ⟨#[118, 97, 108, 117, 101]⟩ = true) (hz : ∀ s ∈ ss, s.size ≤ 140737488355328) (hfz : fund.size ≤ 140737488355328) (hn : G.length < 1000000)
    (hfind : findE G (colGet f ss ⟨#[99, 108, 97, 115, 115]⟩) (colGet f ss ⟨#[105, 116, 101, 109]⟩) = none) :
    Calls Tryf.prog 14 #[.pointer (some ⟨r, 0, none⟩), .agg #[.int .i64 l, .slice a ss.length n, .map m]] w fun e w' => e = .returned .nilIface ∧ Res w0.heap.size w' r fund (G ++ [⟨colGet f ss ⟨#[99, 108, 97, 115, 115]⟩, colGet f ss ⟨#[105, 116, 101, 109]⟩, l, colGet f ss ⟨#[118, 97, 108, 117, 101]⟩⟩]) ∧ Below w0.heap.size w0 w' := by
  obtain ⟨lb, mv, mf, O, d1, d2, d3, d4, hB, hr, hlb, hv, hl, ho⟩ := hR
  have b1 : Below w.heap.size w (w.alloc (.cells #[.int .i64 l, .slice a ss.length n, .map m] 59)) := (Below.refl _ _).alloc (Nat.le_refl _) _
  have hb1 : (w.alloc (.cells #[.int .i64 l, .slice a ss.length n, .map m] 59)).heap[w.heap.size]? = some (.cells #[.int .i64 l, .slice a ss.length n, .map m] 59 (0, 0)) := heap_alloc_new w _
  go_enter Tryf.func14, Tryf.ntmps14
  go_upto_region 1 with fail
  generalize w.alloc (.cells #[.int .i64 l, .slice a ss.length n, .map m] 59) = W1 at *
  have hC : ∀ w', Below W1.heap.size W1 w' → Cols H w' m f := fun w' h => hcl.below (below_chain (below_chain hw0 b1) h)
  have hS : ∀ w', Below W1.heap.size W1 w' → Strs w' a ss := fun w' h => hss.below (below_chain (below_chain hw0 b1) h)
  have k0 := cell_block (j := 0) hb1 rfl
  have k1 := cell_block (j := 1) hb1 rfl
  have k2 := cell_block (j := 2) hb1 rfl
  have hKp : ∀ w', Below W1.heap.size W1 w' → w'.cell? ⟨w.heap.size, 0, none⟩ = some (.int .i64 l) ∧ w'.cell? ⟨w.heap.size, 1, none⟩ = some (.slice a ss.length n) ∧ w'.cell? ⟨w.heap.size, 2, none⟩ = some (.map m) := fun w' h =>
    ⟨(h.cell (cell_lt k0)).trans k0, (h.cell (cell_lt k1)).trans k1, (h.cell (cell_lt k2)).trans k2⟩
  go_cut [5] (fun t5 wx => ∃ N, t5 = .pointer (some ⟨N, 0, none⟩) ∧ wx.heap[N]? = some (.cells #[.string (colGet f ss ⟨#[99, 108, 97, 115, 115]⟩), .string (colGet f ss ⟨#[105, 116, 101, 109]⟩)] 61 (0, 0)) ∧ Below W1.heap.size W1 wx ∧ W1.heap.size ≤ N)
  case first =>
    go_region_held3 (fun w' => w'.cell? ⟨w.heap.size, 0, none⟩ = some (.int .i64 l) ∧ w'.cell? ⟨w.heap.size, 1, none⟩ = some (.slice a ss.length n) ∧ w'.cell? ⟨w.heap.size, 2, none⟩ = some (.map m)) (exact hKp _ (by repeat (first | exact Below.refl _ _ | refine Below.drew ?_ | refine Below.setCell ?_ (by simp <;> omega) _ | refine Below.alloc ?_ (by simp <;> omega) _)))
      (first | (go_at_call 16; refine (rowGet_any (H := H) l m f _ a n ss _ (hC _ (by repeat (first | exact Below.refl _ _ | refine Below.drew ?_ | refine Below.alloc ?_ (by simp <;> omega) _))) (by decide) (hS _ (by repeat (first | exact Below.refl _ _ | refine Below.drew ?_ | refine Below.alloc ?_ (by simp <;> omega) _))) (by first | exact h1 | exact h2)).mono ?_; rintro e w' ⟨rfl, rfl⟩))
    all_goals
      go_wp2_with fail
      go_meet
      exact ⟨_, rfl, by first | exact at3a _ _ _ _ | exact at3b _ _ _ _ | exact at3c _ _ _ _, by repeat (first | exact Below.refl _ _ | refine Below.drew ?_ | refine Below.alloc ?_ (by simp <;> omega) _), by omega⟩
  case rest =>
    clear hKp k0 k1 k2 hC hS
    obtain ⟨N, rfl, hN, b2, hNb⟩ := hcut
    have hON : O.ownBlock ≠ some N := fun e => by have := (ho.lt N e).2; have := b1.size; omega
    generalize hcv : colGet f ss ⟨#[99, 108, 97, 115, 115]⟩ = cv at *
    generalize hiv : colGet f ss ⟨#[105, 116, 101, 109]⟩ = iv at *
    have B2 := below_chain b1 b2
    have tb := Touch.of_below (S := fun _ => False) B2
    have hr2 := tb.obj hr (by simp)
    have hlb2 := tb.obj hlb (by simp)
    have hl2 := hl.keep tb (by simp)
    have hbx := (Touch.of_below (S := fun _ => False) b2).obj hb1 (by simp)
    have hciz : cv.size ≤ 140737488355328 ∧ iv.size ≤ 140737488355328 := ⟨hcv ▸ get_size f ss _ hz, hiv ▸ get_size f ss _ hz⟩
    have hml : (140737488355328 : Nat) ≤ maxLen := by unfold maxLen; omega
    have hKq : ∀ w', Touch (fun k => k = mf) wc w' → w'.cell? ⟨r, 0, none⟩ = some (.string fund) ∧ w'.cell? ⟨r, 6, none⟩ = some (.pointer (some ⟨lb, 0, none⟩)) ∧ w'.cell? ⟨N, 0, none⟩ = some (.string cv) ∧ w'.cell? ⟨N, 1, none⟩ = some (.string iv) ∧ w'.cell? ⟨w.heap.size, 0, none⟩ = some (.int .i64 l) := fun w' t =>
      ⟨cell_block (t.obj hr2 (hl2.ne hr2)) rfl, cell_block (t.obj hr2 (hl2.ne hr2)) rfl, cell_block (t.obj hN (hl2.ne hN)) rfl, cell_block (t.obj hN (hl2.ne hN)) rfl, cell_block (t.obj hbx (hl2.ne hbx)) rfl⟩
    have S0 := hKq wc.drew ⟨rfl, rfl, rfl, Nat.le_refl _, fun _ _ _ => rfl⟩
    obtain ⟨k0, k1, k2, k3, k4⟩ := hKq wc (Touch.refl _ _)
    go_wp2_with fail
    go_region_held3 (fun w' => w'.cell? ⟨r, 0, none⟩ = some (.string fund) ∧ w'.cell? ⟨r, 6, none⟩ = some (.pointer (some ⟨lb, 0, none⟩)) ∧ w'.cell? ⟨N, 0, none⟩ = some (.string cv) ∧ w'.cell? ⟨N, 1, none⟩ = some (.string iv) ∧ w'.cell? ⟨w.heap.size, 0, none⟩ = some (.int .i64 l)) (first | assumption | go_keep)
      (first | (go_at_call 18; refine (itemOf_any iv fund cv _ hciz.2 hfz hciz.1).mono ?_; rintro e w' ⟨⟨what, rfl, hwhat⟩, rfl⟩)
             | (go_at_call 17; refine (claim_new lb mf cv iv _ l (colGet f ss ⟨#[118, 97, 108, 117, 101]⟩) G wc.drew (by exact hlb2) (hl2.block rfl) (by omega) (by omega) (by omega) hfind).mono ?_; rintro e W4 ⟨rfl, hl4, t4⟩; have S4 := hKq W4 ((⟨rfl, rfl, rfl, Nat.le_refl _, fun _ _ _ => rfl⟩ : Touch (fun k => k = mf) wc wc.drew).trans t4)))
    clear S0 k0 k1 k2 k3 k4
    have tq : Touch (fun k => k = mf) wc W4 := (⟨rfl, rfl, rfl, Nat.le_refl _, fun _ _ _ => rfl⟩ : Touch (fun k => k = mf) wc wc.drew).trans t4
    have hr4 := tq.obj hr2 (hl2.ne hr2)
    have hlb4 := tq.obj hlb2 (hl2.ne hlb2)
    have hN4 := tq.obj hN (hl2.ne hN)
    have hbx4 := tq.obj hbx (hl2.ne hbx)
    have hv4 : Held W4 mv valR G := (hv.keep tb (by simp)).keep tq (by exact hB.2.2.2.2)
    have ho4 : W4.ownsRow w0.heap.size 61 2 O G.length (keysOf G) := row_keep (row_keep ho tb (by simp)) tq (fun k cs hk => hl2.ne hk)
    have B4 : Below w0.heap.size w0 W4 := (below_chain hw0 B2).trans (tq.toBelow (fun k h => by rw [h]; exact hB.2.2.2.1) (below_chain hw0 B2).size)
    clear hKq S4 t4 tq hr2 hlb2 hl2 hN hbx tb hv ho hr hlb hl hb1 b1 b2 B2 hw0
    generalize w.heap.size = M at *
    generalize hvv : colGet f ss ⟨#[118, 97, 108, 117, 101]⟩ = vv at *
    have T0 : Touch (fun k => k = mv) W4 W4.drew := ⟨rfl, rfl, rfl, Nat.le_refl _, fun _ _ _ => rfl⟩
    have T1 : Touch (fun k => k = mv) W4 (W4.alloc (.cells #[.int .i64 l, .slice a ss.length n, .map m] 59)).drew := Touch.of_below ((Below.refl _ _).alloc (Nat.le_refl _) _).drew
    obtain ⟨W5, hrun, hv5, hg5⟩ := (hv4.block (w' := (W4.alloc (.cells #[.int .i64 l, .slice a ss.length n, .map m] 59)).drew) ((Below.heap_alloc _ _ _ hv4.lt))).put Tryf.underlying43 (by omega) ⟨cv, iv, l, vv⟩ (by show cv.size ≤ _; omega) (by show iv.size ≤ _; omega) hfind
    have hrun5 : (Instr.mapUpdate 43 (.map (some mv)) (.agg #[.string cv, .string iv]) (.string vv)).run Tryf.prog (W4.alloc (.cells #[.int .i64 l, .slice a ss.length n, .map m] 59)).drew = .ok () W5 := hrun
    have t5 : Touch (fun k => k = mv) W4 W5 := T1.trans (Touch.of_grown hg5 (fun k h => by cases h; rfl))
    have hKr : ∀ w', Touch (fun k => k = mv) W4 w' → w'.cell? ⟨r, 5, none⟩ = some (.map (some mv)) ∧ w'.cell? ⟨N, 0, none⟩ = some (.string cv) ∧ w'.cell? ⟨N, 1, none⟩ = some (.string iv) ∧ w'.cell? ⟨M, 0, none⟩ = some (.int .i64 l) ∧ w'.cell? ⟨M, 1, none⟩ = some (.slice a ss.length n) ∧ w'.cell? ⟨M, 2, none⟩ = some (.map m) := fun w' t =>
      ⟨cell_block (t.obj hr4 (hv4.ne hr4)) rfl, cell_block (t.obj hN4 (hv4.ne hN4)) rfl, cell_block (t.obj hN4 (hv4.ne hN4)) rfl, cell_block (t.obj hbx4 (hv4.ne hbx4)) rfl, cell_block (t.obj hbx4 (hv4.ne hbx4)) rfl, cell_block (t.obj hbx4 (hv4.ne hbx4)) rfl⟩
    obtain ⟨k0, k1, k2, k3, k4, k5⟩ := hKr W4 (Touch.refl _ _)
    clear hrun
    go_wp2_with fail
    go_region_held3 (fun w' => w'.cell? ⟨r, 5, none⟩ = some (.map (some mv)) ∧ w'.cell? ⟨N, 0, none⟩ = some (.string cv) ∧ w'.cell? ⟨N, 1, none⟩ = some (.string iv) ∧ w'.cell? ⟨M, 0, none⟩ = some (.int .i64 l) ∧ w'.cell? ⟨M, 1, none⟩ = some (.slice a ss.length n) ∧ w'.cell? ⟨M, 2, none⟩ = some (.map m)) (first | exact hKr _ T0 | exact hKr _ T1 | exact hKr _ t5)
      (first | (go_at_call 16; refine (rowGet_any (H := H) l m f ⟨#[118, 97, 108, 117, 101]⟩ a n ss W4.drew (hcl.below B4.drew) (by decide) (hss.below B4.drew) h3).mono ?_; rintro e w' ⟨rfl, rfl⟩; rw [hvv]))
    clear k0 k1 k2 k3 k4 k5 hKr T0 T1 hrun5
    have hr5 := t5.obj hr4 (hv4.ne hr4)
    have hlb5 := t5.obj hlb4 (hv4.ne hlb4)
    have hN5 := t5.obj hN4 (hv4.ne hN4)
    have hl5 := hl4.keep t5 (fun e => hB.2.2.2.2 e.symm)
    have ho5 := row_keep ho4 t5 (fun k cs hk => hv4.ne hk)
    have B5 : Below w0.heap.size w0 W5 := B4.trans (t5.toBelow (fun k h => by rw [h]; exact hB.2.2.1) B4.size)
    clear hr4 hlb4 hN4 hl4 ho4 hv4 B4 t5 hbx4 hg5
    have x0 : Touch (fun _ => False) W5 (W5.alloc (.cells #[.string cv, .string iv] 61)).drew := Touch.of_below ((Below.refl _ _).alloc (Nat.le_refl _) _).drew
    have hNew : (W5.alloc (.cells #[.string cv, .string iv] 61)).drew.heap[W5.heap.size]? = some (.cells #[.string cv, .string iv] 61 (0, 0)) := heap_alloc_new W5 _
    obtain ⟨i0, hi0, hz0, hz1, hz2⟩ := info_parts Tryf.info61
    obtain ⟨v', W6, hrA, hown6, hg6, _, _⟩ := run_append_own_at (P := Tryf.prog) (W5.alloc (.cells #[.string cv, .string iv] 61)).drew w0.heap.size 54 54 61 i0 _ 2 32 Tryf.underlying54 hi0 hz0 hz1 hz2 rfl (by decide) O G.length (keysOf G) (row_keep ho5 x0 (by simp)) ⟨W5.heap.size, 0, none⟩ 1 1 [.string cv, .string iv] rfl (World.news_of_block hNew) (by simp; exact ⟨rfl, rfl⟩) (by omega) (by omega) (Nat.le_trans B5.size x0.size)
    obtain ⟨sb, sc, rfl⟩ : ∃ sb sc, v' = .slice (some ⟨sb, 0, none⟩) (G.length + 1) sc := by
      rcases hown6.2 with ⟨_, h⟩ | ⟨g, cap, _, h, _⟩
      · omega
      · exact ⟨g, cap, h⟩
    have x1 : Touch (fun k => O.ownBlock = some k) W5 W6 := (x0.mono (by simp)).trans (Touch.of_grown hg6 (fun k h => h))
    have own : ∀ k, O.ownBlock = some k → ∃ cs, W5.heap[k]? = some (.cells cs 61 (0, 0)) := own_cells ho5
    have hor : O.ownBlock ≠ some r := fun e => by
      obtain ⟨cs, h⟩ := own r e
      rw [hr5] at h
      cases h
    have hr6 := x1.obj hr5 hor
    have hlb6 := x1.obj hlb5 (fun e => by obtain ⟨cs, h⟩ := own lb e; rw [hlb5] at h; cases h)
    have hN6 := x1.obj hN5 hON
    have hv6 := hv5.keep x1 (fun e => by obtain ⟨cs, h⟩ := own mv e; exact hv5.ne h rfl)
    have hl6 := hl5.keep x1 (fun e => by obtain ⟨cs, h⟩ := own mf e; exact hl5.ne h rfl)
    have x2 := Touch.setCell (S := fun k => k = r) W6 ⟨r, 7, none⟩ (.slice (some ⟨sb, 0, none⟩) (G.length + 1) sc) rfl
    have hr7 := heap_setCell_same W6 r 7 _ 56 (.slice (some ⟨sb, 0, none⟩) (G.length + 1) sc) hr6
    have hlb7 := x2.obj hlb6 (fun e => by rw [e, hr6] at hlb6; cases hlb6)
    have hN7 := x2.obj hN6 (fun e => by rw [e, hr6] at hN6; cases hN6)
    have hv7 := hv6.keep x2 (fun e => hv6.ne hr6 e.symm)
    have hl7 := hl6.keep x2 (fun e => hl6.ne hr6 e.symm)
    have ho7 := row_keep hown6 x2 (fun k cs hk e => by rw [e, hr6] at hk; cases hk)
    have B6 : Below w0.heap.size w0 W6 := B5.trans (x1.toBelow (fun k h => (ho5.lt k h).1) B5.size)
    have B7 : Below w0.heap.size w0 (W6.setCell ⟨r, 7, none⟩ (.slice (some ⟨sb, 0, none⟩) (G.length + 1) sc)) := B6.setCell hB.1 _
    have hKs : ∀ w' : World, w'.heap[N]? = some (.cells #[.string cv, .string iv] 61 (0, 0)) → w'.cell? ⟨N, 0, none⟩ = some (.string cv) ∧ w'.cell? ⟨N, 1, none⟩ = some (.string iv) := fun w' h => ⟨cell_block h rfl, cell_block h rfl⟩
    have hNa := x0.obj hN5 (by simp)
    have k0 := cell_block (j := 7) hr5 rfl
    have k1 := cell_block (j := 7) (x0.obj hr5 (by simp)) rfl
    have k2 := cell_block (j := 7) hr6 rfl
    have k3 := frozen_block hr6 7
    have k4 := cell_block (j := 0) hN5 rfl
    have k5 := cell_block (j := 1) hN5 rfl
    have hfin : Res w0.heap.size (W6.setCell ⟨r, 7, none⟩ (.slice (some ⟨sb, 0, none⟩) (G.length + 1) sc)) r fund (G ++ [⟨cv, iv, l, vv⟩]) := by
      refine ⟨lb, mv, mf, (.slice (some ⟨sb, 0, none⟩) (G.length + 1) sc), d1, d2, d3, d4, hB, hr7, hlb7, hv7, hl7, ?_⟩
      have e : keysOf (G ++ [⟨cv, iv, l, vv⟩]) = keysOf G ++ [.string cv, .string iv] := by simp [keysOf]
      rw [e, List.length_append]
      exact ho7
    clear x1 x2 hr7 hlb7 hv7 hl7 ho7 hv6 hl6 hlb6 hown6 own hv5 hl5 hlb5 ho5 B5 B6 hg6 hNew x0
    go_wp2_with fail
    go_region_law (refine step_append_run rfl (.tmp 43) (.tmp 45) 54 rfl O (.slice (some ⟨W5.heap.size, 0, none⟩) 1 1) (by simp [Act.eval, Act.put]) (by simp [Act.eval, Act.put]) (.slice (some ⟨sb, 0, none⟩) (G.length + 1) sc) W6 (by exact hrA) ?_)
    all_goals
      go_wp2
      go_ret
      exact ⟨rfl, by rw [hcv, hiv, hvv]; exact hfin, B7⟩

set_option maxRecDepth 100000 in
set_option maxHeartbeats 4000000 in
theorem put_old {H : Type} (F : Interp) (w0 : World) (r : Nat) (fund : ByteArray) (G : List Ent) (l : Int) (m : Option Nat) (f : ByteArray → Option Int) (a : Option Addr) (n : Nat) (ss : List ByteArray) (w : World) (hw0 : Below w0.heap.size w0 w) (hR : Res w0.heap.size w r fund G) (hcl : Cols H w0 m f) (hss : Strs w0 a ss)
    (h1 : fits f ss ⟨#[99, 108, 97, 115, 115]⟩ = true) (h2 : fits f ss ⟨#[105, 116, 101, 109]⟩ = true) (hz : ∀ s ∈ ss, s.size ≤ 140737488355328) (hfz : fund.size ≤ 140737488355328) (x : Ent) (hF : F.answers w.tape)
    (hfind : findE G (colGet f ss ⟨#[99, 108, 97, 115, 115]⟩) (colGet f ss ⟨#[105, 116, 101, 109]⟩) = some x) :
    Calls Tryf.prog 14 #[.pointer (some ⟨r, 0, none⟩), .agg #[.int .i64 l, .slice a ss.length n, .map m]] w fun e w' => ErrRet e ∧ Res w0.heap.size w' r fund G ∧ Below w0.heap.size w0 w' := by
  obtain ⟨lb, mv, mf, O, d1, d2, d3, d4, hB, hr, hlb, hv, hl, ho⟩ := hR
  have b1 : Below w.heap.size w (w.alloc (.cells #[.int .i64 l, .slice a ss.length n, .map m] 59)) := (Below.refl _ _).alloc (Nat.le_refl _) _
  have hb1 : (w.alloc (.cells #[.int .i64 l, .slice a ss.length n, .map m] 59)).heap[w.heap.size]? = some (.cells #[.int .i64 l, .slice a ss.length n, .map m] 59 (0, 0)) := heap_alloc_new w _
  go_enter Tryf.func14, Tryf.ntmps14
  go_upto_region 1 with fail
  generalize w.alloc (.cells #[.int .i64 l, .slice a ss.length n, .map m] 59) = W1 at *
  have hC : ∀ w', Below W1.heap.size W1 w' → Cols H w' m f := fun w' h => hcl.below (below_chain (below_chain hw0 b1) h)
  have hS : ∀ w', Below W1.heap.size W1 w' → Strs w' a ss := fun w' h => hss.below (below_chain (below_chain hw0 b1) h)
  have k0 := cell_block (j := 0) hb1 rfl
  have k1 := cell_block (j := 1) hb1 rfl
  have k2 := cell_block (j := 2) hb1 rfl
  have hKp : ∀ w', Below W1.heap.size W1 w' → w'.cell? ⟨w.heap.size, 0, none⟩ = some (.int .i64 l) ∧ w'.cell? ⟨w.heap.size, 1, none⟩ = some (.slice a ss.length n) ∧ w'.cell? ⟨w.heap.size, 2, none⟩ = some (.map m) := fun w' h =>
    ⟨(h.cell (cell_lt k0)).trans k0, (h.cell (cell_lt k1)).trans k1, (h.cell (cell_lt k2)).trans k2⟩
  go_cut [5] (fun t5 wx => ∃ N, t5 = .pointer (some ⟨N, 0, none⟩) ∧ wx.heap[N]? = some (.cells #[.string (colGet f ss ⟨#[99, 108, 97, 115, 115]⟩), .string (colGet f ss ⟨#[105, 116, 101, 109]⟩)] 61 (0, 0)) ∧ Below W1.heap.size W1 wx ∧ W1.heap.size ≤ N)
  case first =>
    go_region_held3 (fun w' => w'.cell? ⟨w.heap.size, 0, none⟩ = some (.int .i64 l) ∧ w'.cell? ⟨w.heap.size, 1, none⟩ = some (.slice a ss.length n) ∧ w'.cell? ⟨w.heap.size, 2, none⟩ = some (.map m)) (exact hKp _ (by repeat (first | exact Below.refl _ _ | refine Below.drew ?_ | refine Below.setCell ?_ (by simp <;> omega) _ | refine Below.alloc ?_ (by simp <;> omega) _)))
      (first | (go_at_call 16; refine (rowGet_any (H := H) l m f _ a n ss _ (hC _ (by repeat (first | exact Below.refl _ _ | refine Below.drew ?_ | refine Below.alloc ?_ (by simp <;> omega) _))) (by decide) (hS _ (by repeat (first | exact Below.refl _ _ | refine Below.drew ?_ | refine Below.alloc ?_ (by simp <;> omega) _))) (by first | exact h1 | exact h2)).mono ?_; rintro e w' ⟨rfl, rfl⟩))
    all_goals
      go_wp2_with fail
      go_meet
      exact ⟨_, rfl, by first | exact at3a _ _ _ _ | exact at3b _ _ _ _ | exact at3c _ _ _ _, by repeat (first | exact Below.refl _ _ | refine Below.drew ?_ | refine Below.alloc ?_ (by simp <;> omega) _), by omega⟩
  case rest =>
    clear hKp k0 k1 k2 hC hS
    obtain ⟨N, rfl, hN, b2, hNb⟩ := hcut
    have hON : O.ownBlock ≠ some N := fun e => by have := (ho.lt N e).2; have := b1.size; omega
    generalize hcv : colGet f ss ⟨#[99, 108, 97, 115, 115]⟩ = cv at *
    generalize hiv : colGet f ss ⟨#[105, 116, 101, 109]⟩ = iv at *
    have B2 := below_chain b1 b2
    have tb := Touch.of_below (S := fun _ => False) B2
    have hr2 := tb.obj hr (by simp)
    have hlb2 := tb.obj hlb (by simp)
    have hl2 := hl.keep tb (by simp)
    have hbx := (Touch.of_below (S := fun _ => False) b2).obj hb1 (by simp)
    have hciz : cv.size ≤ 140737488355328 ∧ iv.size ≤ 140737488355328 := ⟨hcv ▸ get_size f ss _ hz, hiv ▸ get_size f ss _ hz⟩
    have hml : (140737488355328 : Nat) ≤ maxLen := by unfold maxLen; omega
    have hKq : ∀ w', Touch (fun _ => False) wc w' → w'.cell? ⟨r, 0, none⟩ = some (.string fund) ∧ w'.cell? ⟨r, 6, none⟩ = some (.pointer (some ⟨lb, 0, none⟩)) ∧ w'.cell? ⟨N, 0, none⟩ = some (.string cv) ∧ w'.cell? ⟨N, 1, none⟩ = some (.string iv) ∧ w'.cell? ⟨w.heap.size, 0, none⟩ = some (.int .i64 l) := fun w' t =>
      ⟨cell_block (t.obj hr2 (by simp)) rfl, cell_block (t.obj hr2 (by simp)) rfl, cell_block (t.obj hN (by simp)) rfl, cell_block (t.obj hN (by simp)) rfl, cell_block (t.obj hbx (by simp)) rfl⟩
    have S0 := hKq wc.drew ⟨rfl, rfl, rfl, Nat.le_refl _, fun _ _ _ => rfl⟩
    obtain ⟨k0, k1, k2, k3, k4⟩ := hKq wc (Touch.refl _ _)
    go_wp2_with fail
    go_region_held3 (fun w' => w'.cell? ⟨r, 0, none⟩ = some (.string fund) ∧ w'.cell? ⟨r, 6, none⟩ = some (.pointer (some ⟨lb, 0, none⟩)) ∧ w'.cell? ⟨N, 0, none⟩ = some (.string cv) ∧ w'.cell? ⟨N, 1, none⟩ = some (.string iv) ∧ w'.cell? ⟨w.heap.size, 0, none⟩ = some (.int .i64 l)) (first | assumption | go_keep)
      (first | (go_at_call 18; refine (itemOf_any iv fund cv _ hciz.2 hfz hciz.1).mono ?_; rintro e w' ⟨⟨what, rfl, hwhat⟩, rfl⟩)
             | (go_at_call 17; refine (claim_old F lb mf cv iv _ l G x wc.drew (by show F.answers wc.tape; rw [B2.tape]; exact hF) (by exact hlb2) (hl2.block rfl) (by omega) (by omega) hfind).mono ?_; rintro e W4 ⟨⟨q, rfl⟩, b4⟩; have S4 := hKq W4 ((⟨rfl, rfl, rfl, Nat.le_refl _, fun _ _ _ => rfl⟩ : Touch (fun _ => False) wc wc.drew).trans (Touch.of_below b4))))
    have B4 := below_chain B2 (below_chain (W := wc.drew) (Below.refl _ _).drew b4)
    have t4 := Touch.of_below (S := fun _ => False) B4
    have hfin : Res w0.heap.size W4 r fund G := ⟨lb, mv, mf, O, d1, d2, d3, d4, hB, t4.obj hr (by simp), t4.obj hlb (by simp), hv.keep t4 (by simp), hl.keep t4 (by simp), row_keep ho t4 (by simp)⟩
    have B5 := below_chain hw0 B4
    clear S4 hKq S0 k0 k1 k2 k3 k4 tb
    go_wp2
    go_ret
    exact ⟨⟨q, rfl⟩, hfin, B5⟩

end Go.Proofs.Qxb6616044aFmt
