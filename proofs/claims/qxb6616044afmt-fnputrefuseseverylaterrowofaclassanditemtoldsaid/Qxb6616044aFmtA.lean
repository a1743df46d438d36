import Derived.Test.Qxb6616044aFmtRows
import Derived.WalkKit
import Derived.WalkSpells
import Derived.WalkLawsBesides
import Derived.Deep.QuietTactic
import Derived.BigQuiet
import Derived.Maps.Own
import Derived.Maps.OwnSet
import Derived.Maps.Views
namespace Go.Proofs.Qxb6616044aFmt
open Go.RowKit
set_option linter.unusedSimpArgs false

theorem cell_lt {w : World} {a : Addr} {v : Value} (h : w.cell? a = some v) : a.block < w.heap.size := by
  rcases Nat.lt_or_ge a.block w.heap.size with h' | h'
  · exact h'
  · rw [World.cell?, Array.getElem?_eq_none h'] at h
    cases h
theorem block_lt {w : World} {b : Nat} {o : Obj} (h : w.heap[b]? = some o) : b < w.heap.size := by
  rcases Nat.lt_or_ge b w.heap.size with h' | h'
  · exact h'
  · rw [Array.getElem?_eq_none h'] at h
    cases h

/-- The slice over address 'a' reads, in world w, as the strings ss. -/
def Strs (w : World) (a : Option Addr) (ss : List ByteArray) : Prop :=
  ∀ i, i < ss.length → ∃ b off, a = some ⟨b, off, none⟩ ∧ w.cell? ⟨b, off + i, none⟩ = some (.string (ss.getD i ByteArray.empty))
theorem Strs.below {w w' : World} {a : Option Addr} {ss : List ByteArray} (h : Strs w a ss) (hb : Below w.heap.size w w') : Strs w' a ss := by
  intro i hi
  obtain ⟨b, off, rfl, hc⟩ := h i hi
  exact ⟨b, off, rfl, by rw [hb.cell (p := ⟨b, off + i, none⟩) (cell_lt hc)]; exact hc⟩
theorem Strs.alloc {w : World} {a : Option Addr} {ss : List ByteArray} (h : Strs w a ss) (o : Obj) : Strs (w.alloc o) a ss :=
  h.below ((Below.refl _ _).alloc (Nat.le_refl _) _)
def intOf : Value → Int | .int _ n => n | _ => 0

def strKey (s : ByteArray) : Lit := .string s.data.toList
theorem strKeyed : Maps.Keyed Tryf.prog 9 := Maps.string_keyed Tryf.underlying9
theorem keyOf_str {s : ByteArray} (hs : s.size ≤ maxLen) : keyOf Tryf.prog 9 (.string s) = some (strKey s) := WideMaps.keyOf_string_mk Tryf.underlying9 hs
theorem Tryf.under3 : Tryf.prog.underlying 3 = some (.int .i64) := by kernel_rfl
theorem zero3 (w : World) : (zeroValue 3).run Tryf.prog w = .ok (.int .i64 0) w := by kernel_rfl

/-- What the columns' map says of a column. -/
def colOf {H : Type} (D : DataW H) (s : ByteArray) : Option Int :=
  if Maps.has D (strKey s) then (match D.atKey (strKey s) (.lit (.int .i64 0)) with | .lit (.int _ n) => some n | _ => none) else none
/-- The map m reads as f. -/
def Cols (H : Type) (w : World) (m : Option Nat) (f : ByteArray → Option Int) : Prop :=
  (m = none ∧ ∀ s, f s = none) ∨ ∃ (b n : Nat) (D : DataW H), m = some b ∧ w.ownsMap Tryf.prog 9 (plainElem Tryf.prog 3) b n D ∧ ∀ s, s.size ≤ maxLen → f s = colOf D s
theorem Cols.below {H : Type} {w w' : World} {m : Option Nat} {f : ByteArray → Option Int} (h : Cols H w m f) (hb : Below w.heap.size w w') : Cols H w' m f := by
  rcases h with h | ⟨b, n, D, rfl, h1, h2⟩
  · exact .inl h
  · have hl := World.ownsMap.lt h1
    obtain ⟨es, clock, e1, e2⟩ := h1
    exact .inr ⟨b, n, D, rfl, ⟨es, clock, (hb.block _ hl).trans e1, e2⟩, h2⟩
theorem Cols.look {H : Type} {w : World} {m : Option Nat} {f : ByteArray → Option Int} (h : Cols H w m f) {s : ByteArray} (hs : s.size ≤ maxLen) :
    (Instr.lookup 22 (.map m) (.string s) true).run Tryf.prog w = .ok (.tuple #[.int .i64 ((f s).getD 0), .bool (f s).isSome]) w := by
  rcases h with ⟨rfl, h⟩ | ⟨b, n, D, rfl, h1, h2⟩
  · rw [h s]
    exact Maps.look_nil true strKeyed Tryf.underlying22 (zero3 w) (keyOf_str hs)
  · obtain ⟨v, ps, hr, hv⟩ := World.ownsMap.look_ok h1 strKeyed Tryf.underlying22 (zero3 w) (plainElem_int Tryf.under3 (by decide)) (keyOf_str hs)
    obtain ⟨c, rfl, hc, _⟩ := plainElem_int_inv Tryf.under3 hv
    have hat := (Prod.mk.inj hc).1
    rw [hr, h2 s hs, colOf, hat]
    cases hh : Maps.has D (strKey s) with
    | true => simp
    | false =>
      rw [Maps.atKey_of_not_has hh] at hat
      simp at hat
      simp [← hat]
theorem Cols.len {H : Type} {w : World} {m : Option Nat} {f : ByteArray → Option Int} (h : Cols H w m f) : ∃ n : Nat, ∀ ty, (Builtin.len_ #[22] ty #[.map m]).run Tryf.prog w = .ok (.int .i64 n) w := by
  rcases h with ⟨rfl, h⟩ | ⟨b, n, D, rfl, h1, h2⟩
  · exact ⟨0, fun ty => Maps.len_nil Tryf.underlying22 ty⟩
  · exact ⟨_, fun ty => World.ownsMap.len h1 Tryf.underlying22 ty⟩

/-- The row's field in the column. -/
def colGet (f : ByteArray → Option Int) (ss : List ByteArray) (s : ByteArray) : ByteArray := match f s with | none => ByteArray.empty | some i => ss.getD i.toNat ByteArray.empty
def fits (f : ByteArray → Option Int) (ss : List ByteArray) (s : ByteArray) : Bool := match f s with | none => true | some i => decide (0 ≤ i) && decide (i < ss.length)

set_option maxHeartbeats 400000 in
theorem rowBytes_any (a : Option Addr) (c : Nat) (ss : List ByteArray) (w : World) (hs : Strs w a ss) (hn : ss.length ≤ 9223372036854775807) :
    Calls Tryf.prog 5 #[.slice a ss.length c] w fun e w' => (∃ r : Int, e = .returned (.int .i64 r)) ∧ w' = w := by
  go_enter Tryf.func5, Tryf.ntmps5
  go_wp2
  · go_ret
    exact ⟨⟨_, rfl⟩, rfl⟩
  go_loop [3, 4] (fun t i => ∃ (k : Nat) (r : Int), k ≤ ss.length ∧ i = .int .i64 k ∧ t = .int .i64 r) (fun _ i => ss.length - (intOf i).toNat)
  case atStart => exact ⟨0, _, Nat.zero_le _, rfl, rfl⟩
  case round =>
    obtain ⟨k, r, hk, rfl, rfl⟩ := hrel
    by_cases hlt : k < ss.length
    · obtain ⟨b, off, rfl, hc⟩ := hs k hlt
      go_wp2
      · go_ret
        exact ⟨⟨_, rfl⟩, rfl⟩
      · go_round
        case rel => exact ⟨k + 1, _, by omega, by go_num, rfl⟩
        case measure => simp [intOf]; omega
    · go_wp2
      go_ret
      exact ⟨⟨_, rfl⟩, rfl⟩

theorem colInRow_any {H : Type} (m : Option Nat) (f : ByteArray → Option Int) (s : ByteArray) (a : Option Addr) (n c : Nat) (ss : List ByteArray) (hss : ss.length = n) (w : World) (hc : Cols H w m f) (hs : s.size ≤ maxLen) :
    Calls Tryf.prog 13 #[.map m, .string s, .slice a n c] w fun e w' => e = .returned (.bool (fits f ss s)) ∧ w' = w := by
  have hl := hc.look hs
  subst hss
  go_enter Tryf.func13, Tryf.ntmps13
  cases h : f s with
  | none =>
    rw [h] at hl
    go_wp2
    go_ret
    exact ⟨by simp [fits, h], rfl⟩
  | some i =>
    rw [h] at hl
    go_wp2
    all_goals
      go_ret
      exact ⟨by (simp [fits, h, *] <;> omega), rfl⟩

theorem get_any {H : Type} (m : Option Nat) (f : ByteArray → Option Int) (s : ByteArray) (a : Option Addr) (c : Nat) (ss : List ByteArray) (w : World) (hc : Cols H w m f) (hs : s.size ≤ maxLen) (hss : Strs w a ss) (hf : fits f ss s = true) :
    Calls Tryf.prog 7 #[.slice a ss.length c, .map m, .string s] w fun e w' => e = .returned (.string (colGet f ss s)) ∧ w' = w := by
  have hl := hc.look hs
  go_enter Tryf.func7, Tryf.ntmps7
  cases h : f s with
  | none =>
    rw [h] at hl
    go_wp2
    go_ret
    exact ⟨by simp only [colGet, h]; rfl, rfl⟩
  | some i =>
    rw [h] at hl
    simp [fits, h] at hf
    obtain ⟨k, rfl⟩ : ∃ k : Nat, i = k := ⟨i.toNat, by omega⟩
    obtain ⟨b, off, rfl, hcell⟩ := hss k (by omega)
    go_wp2
    go_ret
    exact ⟨by simp [colGet, h], rfl⟩

theorem rowGet_any {H : Type} (l : Int) (m : Option Nat) (f : ByteArray → Option Int) (s : ByteArray) (a : Option Addr) (c : Nat) (ss : List ByteArray) (w : World) (hc : Cols H w m f) (hs : s.size ≤ maxLen) (hss : Strs w a ss) (hf : fits f ss s = true) :
    Calls Tryf.prog 16 #[.agg #[.int .i64 l, .slice a ss.length c, .map m], .string s] w fun e w' => e = .returned (.string (colGet f ss s)) ∧ w' = w.alloc (.cells #[.int .i64 l, .slice a ss.length c, .map m] 59) := by
  have hc1 := hc.below ((Below.refl w.heap.size w).alloc (Nat.le_refl _) (.cells #[.int .i64 l, .slice a ss.length c, .map m] 59))
  have hl := hc1.look hs
  have hs1 := hss.alloc (.cells #[.int .i64 l, .slice a ss.length c, .map m] 59)
  go_enter Tryf.func16, Tryf.ntmps16
  cases h : f s with
  | none =>
    rw [h] at hl
    go_wp2
    go_ret
    exact ⟨by simp only [colGet, h]; rfl, rfl⟩
  | some i =>
    rw [h] at hl
    simp [fits, h] at hf
    obtain ⟨k, rfl⟩ : ∃ k : Nat, i = k := ⟨i.toNat, by omega⟩
    obtain ⟨b, off, rfl, hcell⟩ := hs1 k (by omega)
    go_wp2
    go_ret
    exact ⟨by simp [colGet, h], rfl⟩

set_option maxHeartbeats 400000 in
theorem rowFits_any {H : Type} (m : Option Nat) (f : ByteArray → Option Int) (a : Option Addr) (n c : Nat) (ss : List ByteArray) (hss : ss.length = n) (w : World) (hc : Cols H w m f) :
    Calls Tryf.prog 6 #[.map m, .slice a n c] w fun e w' => e = .returned (.bool (fits f ss ⟨#[99, 108, 97, 115, 115]⟩ && fits f ss ⟨#[105, 116, 101, 109]⟩ && fits f ss ⟨#[118, 97, 108, 117, 101]⟩)) ∧ w' = w := by
  go_enter Tryf.func6, Tryf.ntmps6
  cases h1 : fits f ss ⟨#[99, 108, 97, 115, 115]⟩ <;> cases h2 : fits f ss ⟨#[105, 116, 101, 109]⟩ <;> cases h3 : fits f ss ⟨#[118, 97, 108, 117, 101]⟩ <;>
  · go_wp2_with (go_at_call 13; refine (colInRow_any m f _ a n c ss hss _ hc (by decide)).mono ?_; rintro e w' ⟨rfl, rfl⟩; simp only [h1, h2, h3])
    go_ret
    exact ⟨rfl, rfl⟩

end Go.Proofs.Qxb6616044aFmt
