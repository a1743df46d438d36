import Derived.Test.Qxb6616159aB
namespace Go.Proofs.Qxb6616159a
open Go.RowKit
set_option linter.unusedSimpArgs false

def heldElem (v : Value) : Option (DataW Value × List MemPlace) := some (.held v, [])
theorem heldElem_mk (v : Value) : heldElem v = some (.held v, []) := rfl
theorem heldElem_inv {v u : Value} {ps : List MemPlace} (h : heldElem v = some (.held u, ps)) : v = u := by
  simp [heldElem] at h
  exact h.1
def strKey (s : ByteArray) : Lit := .string s.data.toList
theorem strKeyed : Maps.Keyed Try.prog 9 := Maps.string_keyed Try.underlying9
theorem keyOf_str {s : ByteArray} (hs : s.size ≤ maxLen) : keyOf Try.prog 9 (.string s) = some (strKey s) := WideMaps.keyOf_string_mk Try.underlying9 hs
theorem zero20 (w : World) : (zeroValue 20).run Try.prog w = .ok .nilIface w := by kernel_rfl
def sChild : ByteArray := ⟨#[99, 104, 105, 108, 100]⟩
def sParent : ByteArray := ⟨#[112, 97, 114, 101, 110, 116]⟩
theorem keys_ne : strKey sParent ≠ strKey sChild := by simp [strKey, sParent, sChild]

/-- What lies under a key: a string (kind 1), nothing (kind 0), a number. -/
def part (k : Int) (s : ByteArray) (z : DataW Value) : DataW Value := if k = 1 then .held (.iface 9 (.string s)) else if k = 0 then z else .held (.iface 2 (.int .i64 k))
def partV (k : Int) (s : ByteArray) : Value := if k = 1 then .iface 9 (.string s) else if k = 0 then .nilIface else .iface 2 (.int .i64 k)
theorem part_held (k : Int) (s : ByteArray) : part k s (.held .nilIface) = .held (partV k s) := by
  unfold part partV
  by_cases h1 : k = 1
  · rw [if_pos h1, if_pos h1]
  · rw [if_neg h1, if_neg h1]
    by_cases h0 : k = 0
    · rw [if_pos h0, if_pos h0]
    · rw [if_neg h0, if_neg h0]
/-- Block b is the map of an item of kind 1. -/
def MapOf (w : World) (b : Nat) (x : It) : Prop := ∃ n D, w.ownsMap Try.prog 9 heldElem b n D ∧ (∀ z, D.atKey (strKey sChild) z = part x.ck x.c z) ∧ (∀ z, D.atKey (strKey sParent) z = part x.pk x.p z)
theorem MapOf.lt {w : World} {b : Nat} {x : It} (h : MapOf w b x) : b < w.heap.size := by
  obtain ⟨n, D, h, _⟩ := h
  exact World.ownsMap.lt h
theorem MapOf.block {w w' : World} {b : Nat} {x : It} (h : MapOf w b x) (hb : w'.heap[b]? = w.heap[b]?) : MapOf w' b x := by
  obtain ⟨n, D, ⟨es, clock, h1, h2⟩, h3⟩ := h
  exact ⟨n, D, ⟨es, clock, hb.trans h1, h2⟩, h3⟩
theorem MapOf.ne {w : World} {b k : Nat} {x : It} {cs : Array Value} {t : TypeId} {fr : Nat × Nat} (h : MapOf w b x) (hk : w.heap[k]? = some (.cells cs t fr)) : k ≠ b := by
  rintro rfl
  obtain ⟨n, D, ⟨es, clock, h1, _⟩, _⟩ := h
  rw [h1] at hk
  cases hk
theorem MapOf.child {w : World} {b : Nat} {x : It} (h : MapOf w b x) : (Instr.lookup 44 (.map (some b)) (.string ⟨#[99, 104, 105, 108, 100]⟩) false).run Try.prog w = .ok (partV x.ck x.c) w := by
  obtain ⟨n, D, h1, h2, _⟩ := h
  obtain ⟨v, ps, hr, hv⟩ := World.ownsMap.lookup h1 strKeyed Try.underlying44 (zero20 w) (heldElem_mk .nilIface) (keyOf_str (s := sChild) (by decide))
  rw [h2, part_held] at hv
  rw [← heldElem_inv hv]
  exact hr
theorem MapOf.parent {w : World} {b : Nat} {x : It} (h : MapOf w b x) : (Instr.lookup 44 (.map (some b)) (.string ⟨#[112, 97, 114, 101, 110, 116]⟩) false).run Try.prog w = .ok (partV x.pk x.p) w := by
  obtain ⟨n, D, h1, _, h2⟩ := h
  obtain ⟨v, ps, hr, hv⟩ := World.ownsMap.lookup h1 strKeyed Try.underlying44 (zero20 w) (heldElem_mk .nilIface) (keyOf_str (s := sParent) (by decide))
  rw [h2, part_held] at hv
  rw [← heldElem_inv hv]
  exact hr

/-- The interface value v stands for the item x. -/
def Enc (w : World) (v : Value) (x : It) : Prop :=
  (x.k = 0 ∧ v = .iface 9 (.string x.t)) ∨ (x.k = 1 ∧ ∃ b, v = .iface 44 (.map (some b)) ∧ MapOf w b x) ∨ (x.k ≠ 0 ∧ x.k ≠ 1 ∧ v = .iface 2 (.int .i64 x.k))
theorem Enc.keep {S : Nat → Prop} {w w' : World} {v : Value} {x : It} (h : Enc w v x) (t : Touch S w w') (hS : ∀ b, MapOf w b x → ¬ S b) : Enc w' v x := by
  rcases h with h | ⟨h1, b, h2, h3⟩ | h
  · exact .inl h
  · exact .inr (.inl ⟨h1, b, h2, h3.block (t.block b h3.lt (hS b h3))⟩)
  · exact .inr (.inr h)

def ImpRet (x : It) (e : Ending) : Prop := ∃ a b, e = .returned (.tuple #[.agg #[.string a, .string b], .bool (wfIt x)]) ∧ (wfIt x = true → (a, b) = impIt x)

theorem res15 (w : World) (a b : ByteArray) (r : Bool) (N : Nat) (hN : w.heap[N]? = some (.cells #[.string a, .string b] 32 (0, 0))) (tmps : Array Value) (h2 : tmps.getD 2 undef = .pointer (some ⟨N, 0, none⟩)) (h3 : tmps.getD 3 undef = .bool r) :
    (results Try.f15 tmps).run Try.prog w = .ok (.tuple #[.agg #[.string a, .string b], .bool r]) w := by
  have rg : w.rangeAt N 0 [.string a, .string b] := by
    intro j u hj
    rw [Nat.zero_add]
    exact cell_block hN (by simpa using hj)
  have lv := run_loadVar_mid (P := Try.prog) w N 0 32 [.string a, .string b] _ rg Try.underlying32 rfl (by kernel_rfl)
  rw [results_cell_tmp Try.results15, h2, h3]
  show Result.andThen ((loadVar 32 ⟨N, 0, none⟩).run Try.prog w) _ = _
  rw [lv]
  rfl

theorem ta_str (s : ByteArray) (w : World) : (Instr.typeAssert (.iface 9 (.string s)) 20 9 true).run Try.prog w = .ok (.tuple #[.string s, .bool true]) w := by kernel_rfl
theorem ta_map (b : Nat) (w : World) : (Instr.typeAssert (.iface 44 (.map (some b))) 20 9 true).run Try.prog w = .ok (.tuple #[.string ⟨#[]⟩, .bool false]) w := by kernel_rfl
theorem ta_int (k : Int) (w : World) : (Instr.typeAssert (.iface 2 (.int .i64 k)) 20 9 true).run Try.prog w = .ok (.tuple #[.string ⟨#[]⟩, .bool false]) w := by kernel_rfl
theorem ta_nil (w : World) : (Instr.typeAssert .nilIface 20 9 true).run Try.prog w = .ok (.tuple #[.string ⟨#[]⟩, .bool false]) w := by kernel_rfl
theorem tb_map (b : Nat) (w : World) : (Instr.typeAssert (.iface 44 (.map (some b))) 20 44 true).run Try.prog w = .ok (.tuple #[.map (some b), .bool true]) w := by kernel_rfl
theorem tb_int (k : Int) (w : World) : (Instr.typeAssert (.iface 2 (.int .i64 k)) 20 44 true).run Try.prog w = .ok (.tuple #[.map none, .bool false]) w := by kernel_rfl
/-- What 'm[key].(string)' gives. -/
def partS (k : Int) (s : ByteArray) : ByteArray := if k = 1 then s else ⟨#[]⟩
theorem ta_part (k : Int) (s : ByteArray) (w : World) : (Instr.typeAssert (partV k s) 20 9 true).run Try.prog w = .ok (.tuple #[.string (partS k s), .bool (k == 1)]) w := by
  unfold partV partS
  by_cases h1 : k = 1
  · subst h1; exact ta_str s w
  · rw [if_neg h1, if_neg h1]
    have e1 : (k == 1) = false := by simp [h1]
    rw [e1]
    by_cases h0 : k = 0
    · rw [if_pos h0]; exact ta_nil w
    · rw [if_neg h0]; exact ta_int k w

set_option maxHeartbeats 2000000 in
theorem importOf_any (v : Value) (x : It) (w : World) (he : Enc w v x) (ht : x.t.size ≤ 140737488355328) : Calls Try.prog 15 #[v] w fun e w' => ImpRet x e ∧ Below w.heap.size w w' := by
  have t1 := ta_str x.t
  have t2 := ta_map
  have t3 := ta_int x.k
  have t4 := tb_map
  have t5 := tb_int x.k
  have t6 := ta_part x.ck x.c
  have t7 := ta_part x.pk x.p
  rcases he with ⟨hk, rfl⟩ | ⟨hk, b, rfl, hm⟩ | ⟨hk0, hk1, rfl⟩
  · have ha := run_string_add_sum (P := Try.prog) (w.alloc (.cells #[.string ⟨#[]⟩, .string ⟨#[]⟩] 32)) ⟨#[101, 120, 112, 111, 114, 116, 115, 46]⟩ x.t (by show 8 + _ ≤ _; omega)
    have hwf : wfIt x = true := by simp [wfIt, hk]
    go_enter Try.func15, Try.ntmps15
    go_wp2
    refine bodyPost_ret (res15 _ _ _ true _ (heap_alloc_new w _) _ rfl rfl) rfl ⟨⟨_, _, by rw [hwf], fun _ => ?_⟩, (Below.refl _ _).alloc (Nat.le_refl _) _⟩
    simp only [impIt, if_pos hk]
    rfl
  · have hm1 := hm.block (w' := w.alloc (.cells #[.string ⟨#[]⟩, .string ⟨#[]⟩] 32)) (Below.heap_alloc _ _ _ hm.lt)
    have l1 := hm1.child
    have l2 := hm1.parent
    clear hm1 hm
    have hwf : wfIt x = ((x.ck == 1) && (x.pk == 1)) := by simp [wfIt, hk]
    go_enter Try.func15, Try.ntmps15
    cases hck : (x.ck == 1) with
    | false =>
      rw [hck] at t6 hwf
      go_wp2
      refine bodyPost_ret (res15 _ _ _ false _ (heap_alloc_new w _) _ rfl rfl) rfl ⟨⟨_, _, by rw [hwf]; rfl, fun h => ?_⟩, (Below.refl _ _).alloc (Nat.le_refl _) _⟩
      rw [hwf] at h
      cases h
    | true =>
      rw [hck] at t6 hwf
      go_wp2
      refine bodyPost_ret (res15 _ _ _ (x.pk == 1) _ (heap_alloc_new w _) _ rfl rfl) rfl ⟨⟨_, _, by rw [hwf]; rfl, fun h => ?_⟩, (Below.refl _ _).alloc (Nat.le_refl _) _⟩
      rw [hwf] at h
      have e1 : x.ck = 1 := by simpa using hck
      have e2 : x.pk = 1 := by simpa using h
      have e0 : ¬ x.k = 0 := by rw [hk]; decide
      simp only [impIt, if_neg e0, partS, if_pos e1, if_pos e2]
  · have hwf : wfIt x = false := by simp [wfIt, hk0, hk1]
    go_enter Try.func15, Try.ntmps15
    go_wp2
    refine bodyPost_ret (res15 _ _ _ false _ (heap_alloc_new w _) _ rfl rfl) rfl ⟨⟨_, _, by rw [hwf], fun h => ?_⟩, (Below.refl _ _).alloc (Nat.le_refl _) _⟩
    rw [hwf] at h
    cases h

end Go.Proofs.Qxb6616159a
