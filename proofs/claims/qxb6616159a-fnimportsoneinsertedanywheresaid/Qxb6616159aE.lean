import Derived.Test.Qxb6616159aD
namespace Go.Proofs.Qxb6616159a
open Go.RowKit
set_option linter.unusedSimpArgs false

theorem strKey_lit (s : ByteArray) : WideAt.IsKeyLit (strKey s) := trivial
/-- One key's 'if': kind 1 lays the string, kind 0 nothing, another the number. -/
theorem step_key {w : World} {b n : Nat} {D : DataW Value} (key : ByteArray) (hkey : key.size ≤ maxLen) (k : Int) (s : ByteArray) (h : w.ownsMap Try.prog 9 heldElem b n D) (hn : n < 10) :
    ∃ w' D', (k = 1 → (Instr.mapUpdate 44 (.map (some b)) (.string key) (.iface 9 (.string s))).run Try.prog w = .ok () w') ∧ (k ≠ 1 → k ≠ 0 → (Instr.mapUpdate 44 (.map (some b)) (.string key) (.iface 2 (.int .i64 k))).run Try.prog w = .ok () w') ∧ (k = 0 → w' = w) ∧
      w'.ownsMap Try.prog 9 heldElem b (n + 1) D' ∧ (∀ z, D'.atKey (strKey key) z = part k s (D.atKey (strKey key) z)) ∧ (∀ kl, kl ≠ strKey key → ∀ z, D'.atKey kl z = D.atKey kl z) ∧ w.grownBy w' (some b) := by
  have hm : n < maxLen := by unfold maxLen; omega
  by_cases h1 : k = 1
  · obtain ⟨w', r1, r2, r3⟩ := World.ownsMap.update h strKeyed Try.underlying44 hm (keyOf_str hkey) (heldElem_mk (.iface 9 (.string s)))
    exact ⟨w', _, fun _ => r1, fun h' => absurd h1 h', fun h' => by omega, r2, fun z => by rw [Maps.atKey_put_same (World.ownsMap.isMap h) (strKey_lit key), part, if_pos h1], fun kl hne z => Maps.atKey_put_other hne _ z, r3⟩
  · by_cases h0 : k = 0
    · exact ⟨w, D, fun h' => absurd h' h1, fun _ h' => absurd h0 h', fun _ => rfl, h.mono (by omega), fun z => by rw [part, if_neg h1, if_pos h0], fun _ _ _ => rfl, ⟨rfl, rfl, rfl, Nat.le_refl _, fun _ _ _ => rfl⟩⟩
    · obtain ⟨w', r1, r2, r3⟩ := World.ownsMap.update h strKeyed Try.underlying44 hm (keyOf_str hkey) (heldElem_mk (.iface 2 (.int .i64 k)))
      exact ⟨w', _, fun h' => absurd h' h1, fun _ _ => r1, fun h' => absurd h' h0, r2, fun z => by rw [Maps.atKey_put_same (World.ownsMap.isMap h) (strKey_lit key), part, if_neg h1, if_neg h0], fun kl hne z => Maps.atKey_put_other hne _ z, r3⟩

theorem Dep.keep {B d : Nat} {vs : List Value} {S : Nat → Prop} {w w' : World} (h : Dep B w d vs) (t : Touch S w w') (hS : ∀ k cs ty, w.heap[k]? = some (.cells cs ty (0, 0)) → ¬ S k) : Dep B w' d vs := by
  obtain ⟨O, e0, e1, e2, e3, e4, e5, e7, hBd, hh, ho⟩ := h
  exact ⟨O, e0, e1, e2, e3, e4, e5, e7, hBd, t.obj hh (hS _ _ _ hh), row_keep ho t (fun k cs hk => hS k cs 20 hk)⟩

set_option maxHeartbeats 4000000 in
theorem addMap_any (B d : Nat) (vs : List Value) (x : It) (hk : x.k = 1) (w : World) (hd : Dep B w d vs) (hB : B ≤ w.heap.size) (hn : vs.length ≤ 10000000) :
    Calls Try.prog 13 #[.pointer (some ⟨d, 0, none⟩), .int .i64 x.ck, .string x.c, .int .i64 x.pk, .string x.p] w fun e w' => e = .returned (.tuple #[]) ∧ (∃ v, Enc w' v x ∧ Dep B w' d (vs ++ [v])) ∧ Touch (Own B w) w w' := by
  have hmm := @run_makeMap Try.prog
  have own0 : (w.alloc (.map #[] 0)).ownsMap Try.prog 9 heldElem w.heap.size 0 (.map []) := World.ownsMap_made w _ _ _
  have g0 : w.grownBy (w.alloc (.map #[] 0)) none := World.grownBy_alloc w _ none
  obtain ⟨W1, D1, a1, a2, a3, own1, c1, p1, g1⟩ := step_key sChild (by decide) x.ck x.c own0 (by omega)
  obtain ⟨W2, D2, b1, b2, b3, own2, c2, p2, g2⟩ := step_key sParent (by decide) x.pk x.p own1 (by omega)
  have t2 : Touch (fun k => k = w.heap.size) w W2 := ((Touch.of_grown g0 (by simp)).trans (Touch.of_grown g1 (fun k h => by cases h; rfl))).trans (Touch.of_grown g2 (fun k h => by cases h; rfl))
  have hM : MapOf W2 w.heap.size x := ⟨_, D2, own2, fun z => by rw [p2 _ keys_ne.symm, c1]; rfl, fun z => by rw [c2, p1 _ keys_ne]; rfl⟩
  have hd2 : Dep B W2 d vs := hd.keep t2 (fun k cs ty h e => by have := block_lt h; omega)
  obtain ⟨O, sb, sc, W3, k6, hr, k6', f6, hd', ht⟩ := dep_append B d vs (.iface 44 (.map (some w.heap.size))) W2 hd2 (Nat.le_trans hB t2.size) hn rfl
  have hM' := hM.block (ht.block _ hM.lt (fun ⟨_, cs, t, h⟩ => hM.ne h rfl))
  have hfin : Touch (Own B w) w (W3.setCell ⟨d, 6, none⟩ (.slice (some ⟨sb, 0, none⟩) (vs.length + 1) sc)) := by
    refine ⟨ht.os.trans t2.os, ht.tape.trans t2.tape, ht.output.trans t2.output, Nat.le_trans t2.size ht.size, fun k hkl hn => ?_⟩
    rw [ht.block k (Nat.lt_of_lt_of_le hkl t2.size) (fun ⟨h1, cs, t, h2⟩ => hn ⟨h1, cs, t, (t2.block k hkl (by omega)).symm.trans h2⟩)]
    exact t2.block k hkl (by omega)
  have hE : ∃ v, Enc (W3.setCell ⟨d, 6, none⟩ (.slice (some ⟨sb, 0, none⟩) (vs.length + 1) sc)) v x ∧ Dep B (W3.setCell ⟨d, 6, none⟩ (.slice (some ⟨sb, 0, none⟩) (vs.length + 1) sc)) d (vs ++ [v]) := ⟨_, .inr (.inl ⟨hk, _, rfl, hM'⟩), hd'⟩
  clear own0 g0 own1 c1 p1 g1 own2 c2 p2 g2 t2 hM hd2 ht hM' hd' hd
  go_enter Try.func13, Try.ntmps13
  by_cases hc1 : x.ck = 1
  · have a := a1 hc1
    have ec : (x.ck == 1) = true := by simp [hc1]
    unfold sChild at a
    clear a1 a2 a3
    by_cases hp1 : x.pk = 1
    · have b := b1 hp1
      have ep : (x.pk == 1) = true := by simp [hp1]
      unfold sParent at b
      clear b1 b2 b3
      go_wp2_with (at_builtin; refine wpList_append_run rfl _ _ 36 rfl O (.slice (some ⟨W2.heap.size, 0, none⟩) 1 1) rfl rfl _ W3 (by exact hr) ?_)
      go_end0
      exact ⟨rfl, hE, hfin⟩
    · have ep : (x.pk == 1) = false := by simp [hp1]
      by_cases hp0 : x.pk = 0
      · have b := b3 hp0
        have ep0 : (x.pk == 0) = true := by simp [hp0]
        clear b1 b2 b3
        subst b
        go_wp2_with (at_builtin; refine wpList_append_run rfl _ _ 36 rfl O (.slice (some ⟨W2.heap.size, 0, none⟩) 1 1) rfl rfl _ W3 (by exact hr) ?_)
        go_end0
        exact ⟨rfl, hE, hfin⟩
      · have b := b2 hp1 hp0
        have ep0 : (x.pk == 0) = false := by simp [hp0]
        unfold sParent at b
        clear b1 b2 b3
        go_wp2_with (at_builtin; refine wpList_append_run rfl _ _ 36 rfl O (.slice (some ⟨W2.heap.size, 0, none⟩) 1 1) rfl rfl _ W3 (by exact hr) ?_)
        go_end0
        exact ⟨rfl, hE, hfin⟩
  · have ec : (x.ck == 1) = false := by simp [hc1]
    by_cases hc0 : x.ck = 0
    · have a := a3 hc0
      have ec0 : (x.ck == 0) = true := by simp [hc0]
      clear a1 a2 a3
      subst a
      by_cases hp1 : x.pk = 1
      · have b := b1 hp1
        have ep : (x.pk == 1) = true := by simp [hp1]
        unfold sParent at b
        clear b1 b2 b3
        go_wp2_with (at_builtin; refine wpList_append_run rfl _ _ 36 rfl O (.slice (some ⟨W2.heap.size, 0, none⟩) 1 1) rfl rfl _ W3 (by exact hr) ?_)
        go_end0
        exact ⟨rfl, hE, hfin⟩
      · have ep : (x.pk == 1) = false := by simp [hp1]
        by_cases hp0 : x.pk = 0
        · have b := b3 hp0
          have ep0 : (x.pk == 0) = true := by simp [hp0]
          clear b1 b2 b3
          subst b
          rw [alloc_size] at hr
          go_wp2_with (at_builtin; refine wpList_append_run rfl _ _ 36 rfl O (.slice (some ⟨w.heap.size + 1, 0, none⟩) 1 1) rfl rfl _ W3 (by exact hr) ?_)
          go_end0
          exact ⟨rfl, hE, hfin⟩
        · have b := b2 hp1 hp0
          have ep0 : (x.pk == 0) = false := by simp [hp0]
          unfold sParent at b
          clear b1 b2 b3
          go_wp2_with (at_builtin; refine wpList_append_run rfl _ _ 36 rfl O (.slice (some ⟨W2.heap.size, 0, none⟩) 1 1) rfl rfl _ W3 (by exact hr) ?_)
          go_end0
          exact ⟨rfl, hE, hfin⟩
    · have a := a2 hc1 hc0
      have ec0 : (x.ck == 0) = false := by simp [hc0]
      unfold sChild at a
      clear a1 a2 a3
      by_cases hp1 : x.pk = 1
      · have b := b1 hp1
        have ep : (x.pk == 1) = true := by simp [hp1]
        unfold sParent at b
        clear b1 b2 b3
        go_wp2_with (at_builtin; refine wpList_append_run rfl _ _ 36 rfl O (.slice (some ⟨W2.heap.size, 0, none⟩) 1 1) rfl rfl _ W3 (by exact hr) ?_)
        go_end0
        exact ⟨rfl, hE, hfin⟩
      · have ep : (x.pk == 1) = false := by simp [hp1]
        by_cases hp0 : x.pk = 0
        · have b := b3 hp0
          have ep0 : (x.pk == 0) = true := by simp [hp0]
          clear b1 b2 b3
          subst b
          go_wp2_with (at_builtin; refine wpList_append_run rfl _ _ 36 rfl O (.slice (some ⟨W2.heap.size, 0, none⟩) 1 1) rfl rfl _ W3 (by exact hr) ?_)
          go_end0
          exact ⟨rfl, hE, hfin⟩
        · have b := b2 hp1 hp0
          have ep0 : (x.pk == 0) = false := by simp [hp0]
          unfold sParent at b
          clear b1 b2 b3
          go_wp2_with (at_builtin; refine wpList_append_run rfl _ _ 36 rfl O (.slice (some ⟨W2.heap.size, 0, none⟩) 1 1) rfl rfl _ W3 (by exact hr) ?_)
          go_end0
          exact ⟨rfl, hE, hfin⟩

end Go.Proofs.Qxb6616159a
