import Derived.Test.Qxb6616044aFmtA
import Derived.Stop.CallBack
import Derived.Stop.IfaceNil
import Derived.Stop.FmtTextLaws
import GoSem.ClaimData
import Derived.Laws.Concat
import Derived.DeepKeys4
namespace Go.Proofs.Qxb6616044aFmt
open Go.RowKit Go.Extern.Stop Go.Stop Go.Extern
set_option linter.unusedSimpArgs false

@[go_sem] theorem Tryf.call22 (args : Array Value) (w : World) : (callFunc 22 args).run Tryf.prog w = ((FmtStop.errorf #[9, 76] #[32] args).run Tryf.prog w).andThen fun v w' => .ok (.value v) w' :=
  run_callFunc_extern Tryf.func22 (by kernel_rfl) (by kernel_rfl) (by kernel_rfl) (by kernel_rfl) args w
@[go_sem] theorem Tryf.guard (name : String) (w : World) : (FmtStop.guard name).run Tryf.prog w = .ok () w := by kernel_rfl
@[go_sem] theorem Tryf.fmt0 : FmtStop.printed? ⟨#[37, 115, 32, 97, 103, 97, 105, 110, 44, 32, 102, 105, 114, 115, 116, 32, 111, 110, 32, 108, 105, 110, 101, 32, 37, 100]⟩ 2 = some [(0, 115, false), (1, 100, false)] := by kernel_rfl
@[go_sem] theorem Tryf.fmt0r (w : World) : (FmtDoors.printed ⟨#[37, 115, 32, 97, 103, 97, 105, 110, 44, 32, 102, 105, 114, 115, 116, 32, 111, 110, 32, 108, 105, 110, 101, 32, 37, 100]⟩ 2).run Tryf.prog w = .ok [(0, 115, false), (1, 100, false)] w := by kernel_rfl
def Tryf.shape3 : List UInt8 := [5, 3, 0, 0, 0, 0, 0, 0, 0, 105, 110, 116]
def Tryf.shape9 : List UInt8 := [12, 6, 0, 0, 0, 0, 0, 0, 0, 115, 116, 114, 105, 110, 103]
@[go_sem] theorem Tryf.op3_100w (name : String) (x : Int) (w : World) : (FmtStop.operand name true 100 false (.iface 3 (.int .i64 x))).run Tryf.prog w = .ok (Tryf.shape3, Go.Extern.Stop.digits 8 (x % 2 ^ 64).toNat) w := by kernel_rfl
@[go_sem] theorem Tryf.op9_115w (name : String) (s : ByteArray) (w : World) : (FmtStop.operand name true 115 false (.iface 9 (.string s))).run Tryf.prog w = .ok (Tryf.shape9, FmtStop.pack s.data.toList) w := by kernel_rfl
@[go_sem] theorem Tryf.ptr79 (w : World) : (FmtStop.ptrTo "errors.errorString").run Tryf.prog w = .ok 79 w := by kernel_rfl
@[go_sem] theorem Tryf.elem79 (w : World) : (elemOf 79).run Tryf.prog w = .ok 81 w := by kernel_rfl

/-- Some error was returned. -/
def ErrRet (e : Ending) : Prop := ∃ p : Option Addr, e = .returned (.iface 79 (.pointer p))

theorem errorf_any (F : Interp) (s : ByteArray) (l : Int) (blk : Nat) (w : World) (hF : F.answers w.tape)
    (hc0 : w.cell? ⟨blk, 0, none⟩ = some (.iface 9 (.string s))) (hc1 : w.cell? ⟨blk, 1, none⟩ = some (.iface 3 (.int .i64 l))) :
    Calls Tryf.prog 20 #[.string ⟨#[37, 115, 32, 97, 103, 97, 105, 110, 44, 32, 102, 105, 114, 115, 116, 32, 111, 110, 32, 108, 105, 110, 101, 32, 37, 100]⟩, .slice (some ⟨blk, 0, none⟩) 2 2] w fun e w' => ErrRet e ∧ Below w.heap.size w w' := by
  have hF' : ∀ i name reading k range, w.tape i (.extern (word name reading k) range) = F name reading k := hF
  go_enter Tryf.func20, Tryf.ntmps20
  go_wp2
  go_ret
  exact ⟨⟨_, rfl⟩, ((Below.refl _ _).alloc (Nat.le_refl _) _).drew⟩

/-- Some string of at most n bytes was returned. -/
def StrRet (n : Nat) (e : Ending) : Prop := ∃ s : ByteArray, e = .returned (.string s) ∧ s.size ≤ n

theorem fundOrClass_any (x y : ByteArray) (w : World) (hx : x.size ≤ 140737488355328) (hy : y.size ≤ 140737488355328) :
    Calls Tryf.prog 21 #[.string x, .string y] w fun e w' => StrRet 562949953421312 e ∧ w' = w := by
  have a1 := run_string_add_sum (P := Tryf.prog) w ⟨#[99, 108, 97, 115, 115, 32]⟩ y (by show 6 + _ ≤ _; omega)
  have s1 : ((⟨#[99, 108, 97, 115, 115, 32]⟩ : ByteArray) ++ y).size = 6 + y.size := by rw [ByteArray.size_append]; rfl
  have a2 := run_string_add_sum (P := Tryf.prog) w ((⟨#[99, 108, 97, 115, 115, 32]⟩ : ByteArray) ++ y) ⟨#[32, 111, 102, 32]⟩ (by rw [s1]; show _ + 4 ≤ _; omega)
  have s2 : ((⟨#[99, 108, 97, 115, 115, 32]⟩ : ByteArray) ++ y ++ ⟨#[32, 111, 102, 32]⟩).size = 6 + y.size + 4 := by rw [ByteArray.size_append, s1]; rfl
  have a3 := run_string_add_sum (P := Tryf.prog) w ((⟨#[99, 108, 97, 115, 115, 32]⟩ : ByteArray) ++ y ++ ⟨#[32, 111, 102, 32]⟩) x (by rw [s2]; omega)
  have s3 : ((⟨#[99, 108, 97, 115, 115, 32]⟩ : ByteArray) ++ y ++ ⟨#[32, 111, 102, 32]⟩ ++ x).size = 6 + y.size + 4 + x.size := by rw [ByteArray.size_append, s2]
  go_enter Tryf.func21, Tryf.ntmps21
  go_wp2
  · go_ret
    exact ⟨⟨_, rfl, by omega⟩, rfl⟩
  · go_ret
    exact ⟨⟨_, rfl, by omega⟩, rfl⟩

theorem itemOf_any (i x y : ByteArray) (w : World) (hi : i.size ≤ 140737488355328) (hx : x.size ≤ 140737488355328) (hy : y.size ≤ 140737488355328) :
    Calls Tryf.prog 18 #[.string i, .string x, .string y] w fun e w' => StrRet 1125899906842624 e ∧ w' = w := by
  have a1 := run_string_add_sum (P := Tryf.prog) w i ⟨#[32, 111, 102, 32]⟩ (by show _ + 4 ≤ _; omega)
  have s1 : (i ++ (⟨#[32, 111, 102, 32]⟩ : ByteArray)).size = i.size + 4 := by rw [ByteArray.size_append]; rfl
  go_enter Tryf.func18, Tryf.ntmps18
  go_wp2_with fail
  refine (fundOrClass_any x y _ hx hy).mono ?_
  rintro e w' ⟨⟨s, rfl, hs⟩, rfl⟩
  have a2 := run_string_add_sum (P := Tryf.prog) w' (i ++ (⟨#[32, 111, 102, 32]⟩ : ByteArray)) s (by rw [s1]; omega)
  have s2 : (i ++ (⟨#[32, 111, 102, 32]⟩ : ByteArray) ++ s).size = i.size + 4 + s.size := by rw [ByteArray.size_append, s1]
  go_wp2
  go_ret
  exact ⟨⟨_, rfl, by omega⟩, rfl⟩

/-! ### the maps keyed by class and item -/
def heldElem (v : Value) : Option (DataW Value × List MemPlace) := some (.held v, [])
theorem heldElem_mk (v : Value) : heldElem v = some (.held v, []) := rfl
theorem heldElem_inv {v u : Value} {ps : List MemPlace} (h : heldElem v = some (.held u, ps)) : v = u := by
  simp [heldElem] at h
  exact h.1
theorem Tryf.laidOut : laidOutB Tryf.prog = true := by kernel_rfl
theorem itemKeyed : Maps.Keyed Tryf.prog 61 := Maps.Keyed.of_law (deep_law_laid Tryf.laidOut (m := 2) (by decide) (of_decide_eq_true (by kernel_rfl)) (by kernel_rfl) (by kernel_rfl))
def itemVal (c i : ByteArray) : Value := .agg #[.string c, .string i]
def itemKey (c i : ByteArray) : Lit := .string (keyBytes [.string c.data.toList, .string i.data.toList])

theorem Tryf.cells61 : Tryf.prog.cellsOf 61 = 2 := by kernel_rfl
theorem Tryf.cells9 : Tryf.prog.cellsOf 9 = 1 := by kernel_rfl
theorem keyOf_item {c i : ByteArray} (hc : c.size ≤ maxLen) (hi : i.size ≤ maxLen) : keyOf Tryf.prog 61 (itemVal c i) = some (itemKey c i) := by
  have hk : Tryf.prog.keyType 61 = true := by kernel_rfl
  have hf : (itemVal c i).formed Tryf.prog 61 = true := by simp [itemVal, Value.formed, Tryf.underlying61, Tryf.cells61]
  obtain ⟨m, hm⟩ : ∃ m, Tryf.prog.types.size = m + 1 := ⟨Tryf.prog.types.size - 1, by have : 0 < Tryf.prog.types.size := of_decide_eq_true (by kernel_rfl); omega⟩
  have hl : Tryf.prog.keyLits (Tryf.prog.types.size + 1) 61 [.string c, .string i] = some [.string c.data.toList, .string i.data.toList] := by
    rw [hm]
    have k9 : ∀ (s : ByteArray), s.size ≤ maxLen → Tryf.prog.keyLits (m + 1) 9 [.string s] = some [.string s.data.toList] := by
      intro s hs
      unfold Program.keyLits
      rw [Tryf.underlying9]
      simp [hs]
    unfold Program.keyLits
    rw [Tryf.underlying61]
    simp [Tryf.cells61, Tryf.cells9, k9 c hc, k9 i hi]
  unfold keyOf
  rw [Tryf.underlying61]
  have hcells : (itemVal c i).cells.toList = [.string c, .string i] := rfl
  simp only [hk, hf, hcells, hl]
  rfl
theorem itemKey_inj {c i c' i' : ByteArray} (h1 : c.size ≤ maxLen) (h2 : i.size ≤ maxLen) (h3 : c'.size ≤ maxLen) (h4 : i'.size ≤ maxLen) (h : itemKey c i = itemKey c' i') : c = c' ∧ i = i' := by
  have := itemKeyed.inj (keyOf_item h1 h2) (by rw [h]; exact keyOf_item h3 h4)
  simpa [itemVal] using this
theorem itemKey_lit (c i : ByteArray) : WideAt.IsKeyLit (itemKey c i) := trivial

/-- An accepted row: its class, its item, its line, its value. -/
structure Ent where
  c : ByteArray
  i : ByteArray
  l : Int
  v : ByteArray
/-- The entry of a class and item. -/
def findE (G : List Ent) (c i : ByteArray) : Option Ent := G.find? (fun e => decide (e.c = c ∧ e.i = i))
/-- Block b is a map that holds G's entries, each told by R. -/
def Held (w : World) (b : Nat) (R : Ent → Value) (G : List Ent) : Prop :=
  ∃ D, w.ownsMap Tryf.prog 61 heldElem b G.length D ∧ ∀ c i, c.size ≤ maxLen → i.size ≤ maxLen → ∀ z, D.atKey (itemKey c i) z = (match findE G c i with | some e => .held (R e) | none => z)
theorem Held.lt {w : World} {b : Nat} {R : Ent → Value} {G : List Ent} (h : Held w b R G) : b < w.heap.size := by
  obtain ⟨D, h, _⟩ := h
  exact World.ownsMap.lt h
theorem Held.block {w w' : World} {b : Nat} {R : Ent → Value} {G : List Ent} (h : Held w b R G) (hb : w'.heap[b]? = w.heap[b]?) : Held w' b R G := by
  obtain ⟨D, ⟨es, clock, h1, h2⟩, h3⟩ := h
  exact ⟨D, ⟨es, clock, hb.trans h1, h2⟩, h3⟩
theorem Held.made (w : World) (R : Ent → Value) : Held (w.alloc (.map #[] 0)) w.heap.size R [] :=
  ⟨.map [], World.ownsMap_made w _ _ _, fun _ _ _ _ _ => rfl⟩
/-- 'v, ok := m[k]'. -/
theorem Held.look {w : World} {b : Nat} {R : Ent → Value} {G : List Ent} (h : Held w b R G) {t e : TypeId} (ht : Tryf.prog.underlying t = some (.map 61 e)) {z : Value} (hz : (zeroValue e).run Tryf.prog w = .ok z w) {c i : ByteArray} (hc : c.size ≤ maxLen) (hi : i.size ≤ maxLen) :
    (Instr.lookup t (.map (some b)) (itemVal c i) true).run Tryf.prog w = .ok (.tuple #[(match findE G c i with | some e => R e | none => z), .bool (findE G c i).isSome]) w := by
  obtain ⟨D, h1, h2⟩ := h
  obtain ⟨v, ps, hr, hv⟩ := World.ownsMap.look_ok h1 itemKeyed ht hz (heldElem_mk z) (keyOf_item hc hi)
  rw [hr]
  have hat := h2 c i hc hi
  cases hf : findE G c i with
  | none =>
    rw [hf] at hat
    rw [hat] at hv
    rw [heldElem_inv hv, Maps.has_false_of_atKey hat]
    rfl
  | some e =>
    rw [hf] at hat
    rw [hat] at hv
    rw [heldElem_inv hv, Maps.has_true_of_atKey hat]
    rfl
/-- 'm[k]'. -/
theorem Held.colGet {w : World} {b : Nat} {R : Ent → Value} {G : List Ent} (h : Held w b R G) {t e : TypeId} (ht : Tryf.prog.underlying t = some (.map 61 e)) {z : Value} (hz : (zeroValue e).run Tryf.prog w = .ok z w) {c i : ByteArray} (hc : c.size ≤ maxLen) (hi : i.size ≤ maxLen) :
    (Instr.lookup t (.map (some b)) (itemVal c i) false).run Tryf.prog w = .ok (match findE G c i with | some e => R e | none => z) w := by
  obtain ⟨D, h1, h2⟩ := h
  obtain ⟨v, ps, hr, hv⟩ := World.ownsMap.lookup h1 itemKeyed ht hz (heldElem_mk z) (keyOf_item hc hi)
  rw [hr]
  have hat := h2 c i hc hi
  cases hf : findE G c i with
  | none =>
    rw [hf] at hat
    rw [hat] at hv
    rw [heldElem_inv hv]
  | some e =>
    rw [hf] at hat
    rw [hat] at hv
    rw [heldElem_inv hv]
theorem findE_snoc (G : List Ent) (x : Ent) (c i : ByteArray) : findE (G ++ [x]) c i = (match findE G c i with | some e => some e | none => if x.c = c ∧ x.i = i then some x else none) := by
  unfold findE
  rw [List.find?_append]
  cases G.find? (fun e => decide (e.c = c ∧ e.i = i)) with
  | some e => rfl
  | none =>
    by_cases h : x.c = c ∧ x.i = i
    · simp [h]
    · simp [h]
/-- 'm[k] = v', a new key. -/
theorem Held.put {w : World} {b : Nat} {R : Ent → Value} {G : List Ent} (h : Held w b R G) {t e : TypeId} (ht : Tryf.prog.underlying t = some (.map 61 e)) (hn : G.length < maxLen) (x : Ent) (hc : x.c.size ≤ maxLen) (hi : x.i.size ≤ maxLen) (hf : findE G x.c x.i = none) :
    ∃ w', (Instr.mapUpdate t (.map (some b)) (itemVal x.c x.i) (R x)).run Tryf.prog w = .ok () w' ∧ Held w' b R (G ++ [x]) ∧ w.grownBy w' (some b) := by
  obtain ⟨D, h1, h2⟩ := h
  obtain ⟨w', r1, r2, r3⟩ := World.ownsMap.update h1 itemKeyed ht hn (keyOf_item hc hi) (heldElem_mk (R x))
  refine ⟨w', r1, ⟨_, by rw [List.length_append]; exact r2, ?_⟩, r3⟩
  intro c i hc' hi' z
  rw [findE_snoc]
  by_cases hk : x.c = c ∧ x.i = i
  · obtain ⟨rfl, rfl⟩ := hk
    rw [hf, Maps.atKey_put_same (World.ownsMap.isMap h1) (itemKey_lit _ _)]
    simp
  · have hne : itemKey c i ≠ itemKey x.c x.i := fun e => hk (by have := itemKey_inj hc' hi' hc hi e; exact ⟨this.1.symm, this.2.symm⟩)
    rw [Maps.atKey_put_other hne, h2 c i hc' hi' z]
    cases findE G c i with
    | some e => rfl
    | none => simp [hk]

end Go.Proofs.Qxb6616044aFmt
