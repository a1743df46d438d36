import Derived.Test.Qxb6616159aC
namespace Go.Proofs.Qxb6616159a
open Go.RowKit
set_option linter.unusedSimpArgs false

theorem res10 (w : World) (a b : ByteArray) (N : Nat) (hN : w.heap[N]? = some (.cells #[.string a, .string b] 32 (0, 0))) (tmps : Array Value) (h2 : tmps.getD 2 undef = .pointer (some ⟨N, 0, none⟩)) :
    (results Try.f10 tmps).run Try.prog w = .ok (.agg #[.string a, .string b]) w :=
  results_cell_row Try.results10 tmps w N 32 _ (0, 0) _ h2 hN Try.underlying32 rfl (by kernel_rfl)

set_option maxHeartbeats 2000000 in
theorem zimportOf_any (x : It) (w : World) (ht : x.t.size ≤ 140737488355328) : Calls Try.prog 10 #[x.val] w fun e w' => e = .returned (.agg #[.string (impIt x).1, .string (impIt x).2]) ∧ Below w.heap.size w w' := by
  obtain ⟨k, t, ck, c, pk, p⟩ := x
  unfold It.val
  have ht' : t.size ≤ 140737488355328 := ht
  have ha := fun w' => run_string_add_sum (P := Try.prog) w' ⟨#[101, 120, 112, 111, 114, 116, 115, 46]⟩ t (by show 8 + _ ≤ _; omega)
  go_enter Try.func10, Try.ntmps10
  by_cases h0 : k = 0
  · subst h0
    go_wp2
    refine bodyPost_ret (res10 _ _ _ (w.heap.size + 1) (by simp only [get_alloc, alloc_size]; rw [if_pos trivial]; rfl) _ rfl) rfl ⟨rfl, ((Below.refl _ _).alloc (Nat.le_refl _) _).alloc (by simp) _⟩
  · have e0 : (k == 0) = false := by simp [h0]
    go_wp2
    refine bodyPost_ret (res10 _ _ _ (w.heap.size + 1) (by simp only [get_alloc, alloc_size]; rw [if_pos trivial]) _ rfl) rfl ⟨by simp [impIt, h0], ((Below.refl _ _).alloc (Nat.le_refl _) _).alloc (by simp) _⟩

theorem Try.info20 : (Try.prog.info? 20).map (fun i => (i.zero, i.size, i.bytes)) = some (some .nilIface, 1, 16) := by kernel_rfl

/-- Block d is a Dependency whose import values are vs. -/
def Dep (B : Nat) (w : World) (d : Nat) (vs : List Value) : Prop :=
  ∃ O e0 e1 e2 e3 e4 e5 e7, B ≤ d ∧ w.heap[d]? = some (.cells #[e0, e1, e2, e3, e4, e5, O, e7] 38 (0, 0)) ∧ w.ownsRow B 20 1 O vs.length vs
/-- Own blocks of cells. -/
def Own (B : Nat) (w : World) (k : Nat) : Prop := B ≤ k ∧ ∃ cs t, w.heap[k]? = some (.cells cs t (0, 0))

theorem row_keep {B n e sz : Nat} {O : Value} {xs : List Value} {S : Nat → Prop} {w w' : World} (h : w.ownsRow B e sz O n xs) (t : Touch S w w') (hS : ∀ k cs, w.heap[k]? = some (.cells cs e (0, 0)) → ¬ S k) : w'.ownsRow B e sz O n xs := by
  obtain ⟨h1, h2⟩ := h
  refine ⟨h1, ?_⟩
  rcases h2 with h2 | ⟨g, cap, cur, hv, hb, hh, r⟩
  · exact .inl h2
  · exact .inr ⟨g, cap, cur, hv, hb, t.obj hh (hS g cur hh), r⟩
theorem own_cells {w : World} {B n e sz : Nat} {O : Value} {xs : List Value} (h : w.ownsRow B e sz O n xs) : ∀ k, O.ownBlock = some k → B ≤ k ∧ ∃ cs, w.heap[k]? = some (.cells cs e (0, 0)) := by
  intro k e
  obtain ⟨_, h⟩ := h
  rcases h with ⟨h, _⟩ | ⟨g, cap, cur, h, hB, hh, _⟩
  · rw [h] at e; cases e
  · rw [h] at e
    cases e
    exact ⟨hB, cur, hh⟩

theorem wpList_append_run {P : Program} {ops : Array Oper} {rest : List Oper} {o : Oper} {a : Act} {w : World} {Q : Exit → Act → World → Prop} (hgd : o.guard = none) (s x : Operand) (t : TypeId)
    (ho : o.op = .call { callee := .builtin .append, args := #[s, x], argTypes := #[t, t] }) (u v : Value) (hs : a.eval s = u) (hx : a.eval x = v) (v' : Value) (w' : World) (hrun : (Builtin.append_ #[t, t] o.type #[u, v]).run P w = .ok v' w')
    (h : wpList P ops Q rest (a.put o.dst v') w') : wpList P ops Q (o :: rest) a w := by
  refine wpList_plain hgd fun K hK => ?_
  unfold Oper.wp
  simp [execOp, ho, resolve, invoke, builtin, hs, hx, hrun, Result.andThen]
  exact hK _ _ h
/-- 'd.ImportValues = append(d.ImportValues, v)', the parts of it. -/
theorem dep_append (B d : Nat) (vs : List Value) (v : Value) (w : World) (hd : Dep B w d vs) (hB : B ≤ w.heap.size) (hn : vs.length ≤ 10000000) (h1 : v.oneCell' = true) :
    ∃ O sb sc W1, w.cell? ⟨d, 6, none⟩ = some O ∧ (Builtin.append_ #[36, 36] 36 #[O, .slice (some ⟨w.heap.size, 0, none⟩) 1 1]).run Try.prog (w.alloc (.cells #[v] 20)) = .ok (.slice (some ⟨sb, 0, none⟩) (vs.length + 1) sc) W1 ∧
      W1.cell? ⟨d, 6, none⟩ = some O ∧ W1.frozen? ⟨d, 6, none⟩ = false ∧ Dep B (W1.setCell ⟨d, 6, none⟩ (.slice (some ⟨sb, 0, none⟩) (vs.length + 1) sc)) d (vs ++ [v]) ∧
      Touch (Own B w) w (W1.setCell ⟨d, 6, none⟩ (.slice (some ⟨sb, 0, none⟩) (vs.length + 1) sc)) := by
  obtain ⟨O, e0, e1, e2, e3, e4, e5, e7, hBd, hh, ho⟩ := hd
  obtain ⟨i0, hi0, hz0, hz1, hz2⟩ := info_parts Try.info20
  have x0 : Touch (fun _ => False) w (w.alloc (.cells #[v] 20)) := Touch.of_below ((Below.refl _ _).alloc (Nat.le_refl _) _)
  obtain ⟨v', W1, hr, ho1, hg, _, _⟩ := run_append_own_at (P := Try.prog) (w.alloc (.cells #[v] 20)) B 36 36 20 i0 .nilIface 1 16 Try.underlying36 hi0 hz0 hz1 hz2 rfl (by decide) O vs.length vs (ho.alloc _) ⟨w.heap.size, 0, none⟩ 1 1 [v] rfl (World.news_of_block (heap_alloc_new w _)) (by simp; exact h1) (by unfold maxLen; omega) (by omega) (by simp; omega)
  obtain ⟨sb, sc, rfl⟩ : ∃ sb sc, v' = .slice (some ⟨sb, 0, none⟩) (vs.length + 1) sc := by
    rcases ho1.2 with ⟨_, h⟩ | ⟨g, cap, _, h, _⟩
    · omega
    · exact ⟨g, cap, h⟩
  have x1 : Touch (fun k => O.ownBlock = some k) w W1 := (x0.mono (by simp)).trans (Touch.of_grown hg (fun k h => h))
  have hod : O.ownBlock ≠ some d := fun e => by
    obtain ⟨_, cs, h⟩ := own_cells ho d e
    rw [hh] at h
    cases h
  have hh1 := x1.obj hh hod
  have x2 := Touch.setCell (S := fun k => k = d) W1 ⟨d, 6, none⟩ (.slice (some ⟨sb, 0, none⟩) (vs.length + 1) sc) rfl
  refine ⟨O, sb, sc, W1, cell_block hh rfl, hr, cell_block hh1 rfl, frozen_block hh1 6, ⟨_, e0, e1, e2, e3, e4, e5, e7, hBd, heap_setCell_same W1 d 6 _ 38 _ hh1, ?_⟩, ?_⟩
  · rw [List.length_append]
    exact row_keep ho1 x2 (fun k cs hk e => by rw [e, hh1] at hk; cases hk)
  · refine (x1.mono ?_).trans (x2.mono ?_)
    · intro k hk
      obtain ⟨hb, cs, h⟩ := own_cells ho k hk
      exact ⟨hb, cs, 20, h⟩
    · rintro k rfl
      exact ⟨hBd, _, 38, hh⟩

set_option maxHeartbeats 2000000 in
theorem addString_any (B d : Nat) (vs : List Value) (s : ByteArray) (w : World) (hd : Dep B w d vs) (hB : B ≤ w.heap.size) (hn : vs.length ≤ 10000000) :
    Calls Try.prog 12 #[.pointer (some ⟨d, 0, none⟩), .string s] w fun e w' => e = .returned (.tuple #[]) ∧ Dep B w' d (vs ++ [.iface 9 (.string s)]) ∧ Touch (Own B w) w w' := by
  obtain ⟨O, sb, sc, W1, k6, hr, k6', f6, hd', ht⟩ := dep_append B d vs (.iface 9 (.string s)) w hd hB hn rfl
  go_enter Try.func12, Try.ntmps12
  go_wp2_with (at_builtin; refine wpList_append_run rfl (.tmp 8) (.tmp 11) 36 rfl O (.slice (some ⟨w.heap.size, 0, none⟩) 1 1) rfl rfl _ W1 (by exact hr) ?_)
  go_end0
  exact ⟨rfl, hd', ht⟩

set_option maxHeartbeats 2000000 in
theorem addOther_any (B d : Nat) (vs : List Value) (n : Int) (w : World) (hd : Dep B w d vs) (hB : B ≤ w.heap.size) (hn : vs.length ≤ 10000000) :
    Calls Try.prog 14 #[.pointer (some ⟨d, 0, none⟩), .int .i64 n] w fun e w' => e = .returned (.tuple #[]) ∧ Dep B w' d (vs ++ [.iface 2 (.int .i64 n)]) ∧ Touch (Own B w) w w' := by
  obtain ⟨O, sb, sc, W1, k6, hr, k6', f6, hd', ht⟩ := dep_append B d vs (.iface 2 (.int .i64 n)) w hd hB hn rfl
  go_enter Try.func14, Try.ntmps14
  go_wp2_with (at_builtin; refine wpList_append_run rfl (.tmp 8) (.tmp 11) 36 rfl O (.slice (some ⟨w.heap.size, 0, none⟩) 1 1) rfl rfl _ W1 (by exact hr) ?_)
  go_end0
  exact ⟨rfl, hd', ht⟩

end Go.Proofs.Qxb6616159a
