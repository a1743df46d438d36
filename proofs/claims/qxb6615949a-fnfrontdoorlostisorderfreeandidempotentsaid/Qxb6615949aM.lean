import Derived.Test.Qxb6615949aD
import Derived.Maps.Own
import Derived.Maps.OwnSet
import Derived.Maps.Views
namespace Go.Proofs.Qxb6615949a
open Go.RowKit

/-- How an element of a map reads: as itself. -/
def heldElem (v : Value) : Option (DataW Value × List MemPlace) := some (.held v, [])
theorem heldElem_mk (v : Value) : heldElem v = some (.held v, []) := rfl
theorem heldElem_inv {v u : Value} {ps : List MemPlace} (h : heldElem v = some (.held u, ps)) : v = u := by
  simp [heldElem] at h
  exact h.1

def strKey (s : ByteArray) : Lit := .string s.data.toList
theorem strKey_lit (s : ByteArray) : WideAt.IsKeyLit (strKey s) := trivial
theorem strKey_inj {s t : ByteArray} (h : strKey s = strKey t) : s = t := by
  simp [strKey] at h
  exact ByteArray.ext h
theorem keys_lit (keys : List ByteArray) : ∀ x ∈ keys.map strKey, WideAt.IsKeyLit x := by
  intro x hx
  obtain ⟨s, _, rfl⟩ := List.mem_map.1 hx
  exact strKey_lit s
theorem strKeyed : Maps.Keyed Try.prog 9 := Maps.string_keyed Try.underlying9
theorem keyOf_str {s : ByteArray} (hs : s.size ≤ maxLen) : keyOf Try.prog 9 (.string s) = some (strKey s) := WideMaps.keyOf_string_mk Try.underlying9 hs

/-- The set of the keys, each with true. -/
def lostD (keys : List ByteArray) : DataW Value := Maps.setOf (.held (.bool true)) (keys.map strKey)
theorem lostD_snoc (keys : List ByteArray) (x : ByteArray) : lostD (keys ++ [x]) = (lostD keys).put (strKey x) (.held (.bool true)) := by
  simp only [lostD, List.map_append, List.map_cons, List.map_nil, Maps.setOf_snoc]

theorem atKey_fold (u : DataW Value) (k : Lit) (z : DataW Value) : ∀ (acc : List Lit) (m : DataW Value), Maps.IsMap m → (∀ x ∈ acc, WideAt.IsKeyLit x) → k ∈ acc → (acc.foldl (fun m x => m.put x u) m).atKey k z = u := by
  intro acc
  induction acc with
  | nil => intro m _ _ h; cases h
  | cons x r ih =>
    intro m hm hk h
    rw [List.foldl_cons]
    by_cases hr : k ∈ r
    · exact ih _ (hm.put x u) (fun y hy => hk y (by simp [hy])) hr
    · have e : k = x := by simpa [hr] using h
      subst e
      have keep : ∀ (r : List Lit) (m : DataW Value), k ∉ r → (r.foldl (fun m x => m.put x u) m).atKey k z = m.atKey k z := by
        intro r
        induction r with
        | nil => intro m _; rfl
        | cons y t ih2 =>
          intro m h
          rw [List.foldl_cons, ih2 _ (fun h' => h (by simp [h'])), Maps.atKey_put_other (fun e => h (by simp [e]))]
      rw [keep r _ hr, Maps.atKey_put_same hm (hk k (by simp))]

theorem lostD_at {keys : List ByteArray} {x : ByteArray} (h : x ∈ keys) (z : DataW Value) : (lostD keys).atKey (strKey x) z = .held (.bool true) :=
  atKey_fold _ _ _ _ _ Maps.isMap_empty (keys_lit keys) (List.mem_map.2 ⟨x, h, rfl⟩)

/-- Block b is a map[string]bool that holds just the keys, each with true. -/
def LostAt (w : World) (b : Nat) (keys : List ByteArray) : Prop := w.ownsMap Try.prog 9 heldElem b keys.length (lostD keys)

theorem LostAt.lt {w : World} {b : Nat} {keys : List ByteArray} (h : LostAt w b keys) : b < w.heap.size := World.ownsMap.lt h

theorem LostAt.block {w w' : World} {b : Nat} {keys : List ByteArray} (h : LostAt w b keys) (hb : w'.heap[b]? = w.heap[b]?) : LostAt w' b keys := by
  obtain ⟨es, clock, h1, h2⟩ := h
  exact ⟨es, clock, hb.trans h1, h2⟩

/-- 'm[x] = true'. -/
theorem LostAt.put {w : World} {b : Nat} {keys : List ByteArray} (h : LostAt w b keys) (hn : keys.length < maxLen) {x : ByteArray} (hx : x.size ≤ maxLen) :
    ∃ w', (Instr.mapUpdate 56 (.map (some b)) (.string x) (.bool true)).run Try.prog w = .ok () w' ∧ LostAt w' b (keys ++ [x]) ∧ w.grownBy w' (some b) := by
  obtain ⟨w', h1, h2, h3⟩ := World.ownsMap.update h strKeyed Try.underlying56 hn (keyOf_str hx) (heldElem_mk (.bool true))
  refine ⟨w', h1, ?_, h3⟩
  unfold LostAt
  rw [lostD_snoc, List.length_append]
  exact h2

theorem zero4 (w : World) : (zeroValue 4).run Try.prog w = .ok (.bool false) w := by kernel_rfl

/-- 'm[x]', x among the keys. -/
theorem LostAt.get {w : World} {b : Nat} {keys : List ByteArray} (h : LostAt w b keys) {x : ByteArray} (hx : x.size ≤ maxLen) (hm : x ∈ keys) :
    (Instr.lookup 56 (.map (some b)) (.string x) false).run Try.prog w = .ok (.bool true) w := by
  obtain ⟨v, ps, h1, h2⟩ := World.ownsMap.lookup h strKeyed Try.underlying56 (zero4 w) (heldElem_mk _) (keyOf_str hx)
  rw [lostD_at hm] at h2
  rw [h1, heldElem_inv h2]

/-- How many different ones there are. -/
def distinct (keys : List ByteArray) : Nat := ((keys.map strKey).foldl Maps.addKey []).length

theorem LostAt.len {w : World} {b : Nat} {keys : List ByteArray} (h : LostAt w b keys) (ty : TypeId) : (Builtin.len_ #[56] ty #[.map (some b)]).run Try.prog w = .ok (.int .i64 (distinct keys)) w := by
  rw [World.ownsMap.len h Try.underlying56 ty]
  unfold lostD distinct
  rw [Maps.size_setOf _ _ (keys_lit keys)]

set_option maxHeartbeats 400000 in
set_option maxRecDepth 100000 in
theorem lostSet_any (a : Option Addr) (c : Nat) (ss : List ByteArray) (w : World) (hs : Strs w a ss) (hz : ∀ s ∈ ss, s.size ≤ maxLen) (hn : ss.length * 16 ≤ 140737488351232) :
    Calls Try.prog 28 #[.slice a ss.length c] w fun e w' => e = .returned (.map (some w.heap.size)) ∧ LostAt w' w.heap.size ss ∧ Below w.heap.size w w' := by
  have hmm := @run_makeMap Try.prog
  go_enter Try.func28, Try.ntmps28
  go_wp2
  go_loopw [4] (fun i wr => ∃ k : Nat, k ≤ ss.length ∧ i = .int .i64 k ∧ LostAt wr w.heap.size (ss.take k) ∧ Below w.heap.size w wr) (fun i _ => ss.length - (intOf i).toNat)
  case atStart => exact ⟨0, Nat.zero_le _, rfl, World.ownsMap_made w _ _ _, (Below.refl _ _).alloc (Nat.le_refl _) _⟩
  clear hmm
  obtain ⟨k, hk, rfl, hown, hb⟩ := hrel
  by_cases hlt : k < ss.length
  · obtain ⟨b, off, rfl, hc⟩ := hs.below hb k hlt
    obtain ⟨w1, hrun, hown1, hg⟩ := hown.put (by rw [List.length_take]; unfold maxLen; omega) (hz ss[k] (List.getElem_mem _))
    rw [← take_snoc ss k hlt] at hown1
    have hb1 := hb.grown hg hb.size (fun k h => by cases h; exact Nat.le_refl _)
    clear hg
    go_wp2
    go_roundw
    case rel => exact ⟨k + 1, by omega, by go_num, hown1, hb1⟩
    case measure => simp [intOf]; omega
  · rw [List.take_of_length_le (by omega)] at hown
    go_wp2
    go_ret
    exact ⟨rfl, hown, hb⟩

set_option maxHeartbeats 400000 in
theorem cloneNil_any (w : World) :
    Calls Try.prog 29 #[.slice none 0 0] w fun e w' => e = .returned (.slice none 0 0) ∧ w' = w := by
  have he := Lib.run_eql_slice_nil (P := Try.prog) w 52 23 none 0 0 0 0 Try.underlying52
  go_enter Try.func29, Try.ntmps29
  go_wp2
  go_ret
  exact ⟨rfl, rfl⟩

end Go.Proofs.Qxb6615949a
