import Derived.Test.Qxb6615960aFmtD
namespace Go.Proofs.Qxb6615960aFmt
open Go.RowKit
set_option linter.unusedSimpArgs false

theorem from_ok (L : List UInt8) (g n c : Nat) (w : World) (hL : BytesIn w g L) (hl : L.length = n) (h68 : 68 ≤ n) (hn : n ≤ 9223372036854775807) (hh : L.take 20 = 19 :: proto) :
    Calls Tryf.prog 16 #[.slice (some ⟨g, 0, none⟩) n c] w fun e w' => e = .returned (.tuple #[.agg (bs ((L.drop 20).take 48)).toArray, .int .i64 ((n : Int) - 68), .nilIface]) ∧ Below w.heap.size w w' := by
  refine (from_gen (zs 48) ((L.drop 20).take 48) L (fun v => v = .nilIface) g n c w rfl (by rw [List.length_take, List.length_drop]; omega) hL h68 hn ?_).mono ?_
  · intro br W hr hB hne
    refine (readHandshake_ok br g n c L W hr hB hl h68 hne hh).mono ?_
    rintro e w' ⟨rfl, h1, h2⟩
    exact ⟨_, rfl, rfl, h1, h2⟩
  · rintro e w' ⟨err, rfl, rfl, h⟩
    exact ⟨rfl, h⟩

theorem from_bad (L : List UInt8) (g n c : Nat) (w : World) (hL : BytesIn w g L) (hl : L.length = n) (h68 : 68 ≤ n) (hn : n ≤ 9223372036854775807) (hh : L.take 20 ≠ 19 :: proto) :
    Calls Tryf.prog 16 #[.slice (some ⟨g, 0, none⟩) n c] w fun e w' => ∃ p, e = .returned (.tuple #[.agg (bs (zs 48)).toArray, .int .i64 ((n : Int) - 68), .iface 99 (.pointer p)]) ∧ Below w.heap.size w w' := by
  refine (from_gen (zs 48) (zs 48) L (fun v => ∃ p, v = .iface 99 (.pointer p)) g n c w rfl rfl hL h68 hn ?_).mono ?_
  · intro br W hr hB hne
    refine (readHandshake_bad br g n c L W hr hB hl h68 hne hh).mono ?_
    rintro e w' ⟨p, rfl, h1, h2⟩
    exact ⟨_, rfl, ⟨p, rfl⟩, h1, h2⟩
  · rintro e w' ⟨err, rfl, ⟨p, rfl⟩, h⟩
    exact ⟨p, rfl, h⟩

/-- Some bool was returned. -/
def BoolRet (e : Ending) : Prop := ∃ r : Bool, e = .returned (.bool r)
theorem BoolRet.mk (r : Bool) : BoolRet (.returned (.bool r)) := ⟨r, rfl⟩

set_option maxHeartbeats 1000000 in
theorem bytes_any (A B C : Array Value) (a : Option Addr) (n c : Nat) (k f : Int) (w : World) (hn : n ≤ 9223372036854775807) :
    Calls Tryf.prog 18 #[.agg A, .agg B, .agg C, .slice a n c, .int .i64 k, .int .u8 f] w fun e w' => BoolRet e ∧ Below w.heap.size w w' := by
  go_enter Tryf.func18, Tryf.ntmps18
  go_wp2
  all_goals (go_ret; exact ⟨BoolRet.mk _, by repeat (first | exact Below.refl _ _ | apply Below.drew | refine Below.alloc ?_ (by simp <;> omega) _)⟩)

/-- 'append(b, s...)', s a string, WITHIN THE CAPACITY. -/
theorem wpList_append_fits_string {P : Program} (w : World) {ops : Array Oper} {rest : List Oper} {o : Oper} {a : Act} {Q : Exit → Act → World → Prop}
    (hg : o.guard = none) (s x : Operand) (t u : TypeId) (hop : o.op = Op.call { callee := Callee.builtin Builtin.append, args := #[s, x], argTypes := #[t, u] })
    (base : Nat) (e : TypeId) (i : TypeInfo) (h1 : P.underlying t = some (.slice e)) (hu : P.underlying u = some .string) (h2 : P.info? e = some i) (h4 : i.size = 1)
    (g k cap : Nat) (xs : List Value) (hs : a.eval s = .slice (some ⟨g, 0, none⟩) k cap) (hown : w.ownsRow base e 1 (.slice (some ⟨g, 0, none⟩) k cap) k xs) (str : ByteArray) (hx : a.eval x = .string str) (m : Nat) (hm : str.size = m) (b1 : k + m ≤ cap)
    (hK : ∀ w', w'.ownsRow base e 1 (.slice (some ⟨g, 0, none⟩) (k + m) cap) (k + m) (xs ++ Lib.strCells str) → w.grownBy w' (some g) → wpList P ops Q rest (a.put o.dst (.slice (some ⟨g, 0, none⟩) (k + m) cap)) w') :
    wpList P ops Q (o :: rest) a w := by
  subst hm
  refine wpList_plain hg fun K hK' => ?_
  obtain ⟨hl, h'⟩ := hown
  rcases h' with ⟨hv, _⟩ | ⟨g', cap', cur, hv, hgb, hh, r1, r2, r3, r4⟩
  · simp at hv
  simp only [Value.slice.injEq, Option.some.injEq, Addr.mk.injEq, and_true, true_and] at hv
  obtain ⟨rfl, rfl⟩ := hv
  have hrun := Lib.run_append_room_string (P := P) w t u o.type e i h1 hu h2 h4 g k cap cur hh str b1 (by omega)
  unfold Oper.wp
  simp [execOp, hop, resolve, invoke, builtin, hs, hx, hrun, Result.andThen]
  refine hK' _ _ (hK _ ⟨?_, .inr ⟨g, cap, _, rfl, hgb, setRow_heap w g _ _ e _ hh, b1, r2, ?_, ?_⟩⟩ ⟨rfl, rfl, rfl, by simp [World.setRow], fun j _ hj => setRow_other w g j _ (fun e => hj (by rw [e]))⟩)
  · rw [List.length_append, hl, Lib.strCells_length]; omega
  · simp [Lib.strCells_length]; omega
  · rw [Nat.mul_one] at r4 ⊢
    have e1 : (cur.toList.take k ++ Lib.strCells str).length = k + str.size := by rw [List.length_append, Lib.strCells_length, List.length_take]; simp; omega
    rw [List.toList_toArray, ← List.append_assoc, List.take_left' e1, r4]

end Go.Proofs.Qxb6615960aFmt
