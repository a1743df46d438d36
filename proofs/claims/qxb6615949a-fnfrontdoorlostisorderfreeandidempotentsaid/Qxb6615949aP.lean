import Derived.Test.Qxb6615949aO
import Derived.Test.Qxb6615949aB
namespace Go.Proofs.Qxb6615949a
open Go.RowKit

structure LvLt (hi : Nat) (r : LvR) : Prop where
  p : r.p < hi
  m : r.ml < hi
  i : ∀ g, r.vi.ownBlock = some g → g < hi
  l : ∀ g, r.vl.ownBlock = some g → g < hi

/-- The door f, all its blocks from lo on and below hi. -/
def Door (w : World) (lo hi f : Nat) (ids live keys ids' live' keys' : List ByteArray) : Prop :=
  ∃ ra rr, FDAt w lo f ra rr ids live keys ids' live' keys' ∧ f < hi ∧ LvLt hi ra ∧ LvLt hi rr

theorem LvAt.lt {w : World} {base : Nat} {r : LvR} {ids live keys : List ByteArray} (h : LvAt w base r ids live keys) : LvLt w.heap.size r :=
  ⟨block_lt h.blk, h.lost.lt, fun _ hg => (own_lt h.oi hg).1, fun _ hg => (own_lt h.ol hg).1⟩

theorem Door.of_build {w : World} {base f : Nat} {ra rr : LvR} {ids live keys ids' live' keys' : List ByteArray} (h : FDAt w base f ra rr ids live keys ids' live' keys') : Door w base w.heap.size f ids live keys ids' live' keys' := by
  obtain ⟨mw, t, hb⟩ := h.blk
  exact ⟨ra, rr, h, block_lt hb, h.acc.lt, h.rep.lt⟩

theorem LvAt.keepT {w w' : World} {lo hi : Nat} {r : LvR} {ids live keys : List ByteArray} (h : LvAt w lo r ids live keys) (hl : LvLt hi r) {S : Nat → Prop} (t : Touch S w w') (hS : ∀ k, S k → k < lo ∨ hi ≤ k) : LvAt w' lo r ids live keys := by
  refine h.kept t ?_ ?_ ?_ ?_
  · intro e
    rcases hS _ e with h' | h'
    · exact absurd h.bp (by omega)
    · exact absurd hl.p (by omega)
  · intro e
    rcases hS _ e with h' | h'
    · exact absurd h.bm (by omega)
    · exact absurd hl.m (by omega)
  · intro g hg e
    rcases hS _ e with h' | h'
    · exact absurd (own_lt h.oi hg).2.1 (by omega)
    · exact absurd (hl.i g hg) (by omega)
  · intro g hg e
    rcases hS _ e with h' | h'
    · exact absurd (own_lt h.ol hg).2.1 (by omega)
    · exact absurd (hl.l g hg) (by omega)

theorem Door.keep {w w' : World} {lo hi f : Nat} {ids live keys ids' live' keys' : List ByteArray} (h : Door w lo hi f ids live keys ids' live' keys') {S : Nat → Prop} (t : Touch S w w') (hS : ∀ k, S k → k < lo ∨ hi ≤ k) : Door w' lo hi f ids live keys ids' live' keys' := by
  obtain ⟨ra, rr, ⟨⟨mw, t', hb⟩, ha, hr, hf, hap⟩, hfl, la, lr⟩ := h
  exact ⟨ra, rr, ⟨⟨mw, t', t.obj hb (fun e => by rcases hS _ e with h' | h' <;> omega)⟩, ha.keepT la t hS, hr.keepT lr t hS, hf, hap⟩, hfl, la, lr⟩

theorem Door.below {w w' : World} {lo hi f : Nat} {ids live keys ids' live' keys' : List ByteArray} (h : Door w lo hi f ids live keys ids' live' keys') (b : Below w.heap.size w w') : Door w' lo hi f ids live keys ids' live' keys' :=
  h.keep (Touch.of_below (S := fun _ => False) b) (by simp)

theorem Door.lost {w : World} {lo hi f : Nat} {ids live keys ids' live' keys' : List ByteArray} (h : Door w lo hi f ids live keys ids' live' keys') (x : ByteArray) (hx : x.size ≤ maxLen) (hk : keys.length < maxLen) (hk' : keys'.length < maxLen) :
    Calls Try.prog 19 #[.pointer (some ⟨f, 0, none⟩), .string x] w fun e w' => e = .returned (.tuple #[]) ∧ Door w' lo hi f ids (without live x) (keys ++ [x]) ids' (without live' x) (keys' ++ [x]) ∧ Touch (fun k => lo ≤ k ∧ k < hi) w w' := by
  obtain ⟨ra, rr, hfd, hfl, la, lr⟩ := h
  refine (zzlost_any lo f ra rr ids live keys ids' live' keys' x w hfd hx hk hk').mono ?_
  rintro e w' ⟨rfl, v, v', hv, hv', hfd', t⟩
  refine ⟨rfl, ⟨_, _, hfd', hfl, ⟨la.p, la.m, la.i, fun g hg => la.l g (hv ▸ hg)⟩, ⟨lr.p, lr.m, lr.i, fun g hg => lr.l g (hv' ▸ hg)⟩⟩, t.mono ?_⟩
  have key : ∀ {r : LvR} {a b c : List ByteArray}, LvAt w lo r a b c → LvLt hi r → ∀ k, r.writes k → lo ≤ k ∧ k < hi := by
    intro r a b c hl ll k hk
    rcases hk with rfl | rfl | hg
    · exact ⟨hl.bp, ll.p⟩
    · exact ⟨hl.bm, ll.m⟩
    · exact ⟨(own_lt hl.ol hg).2.1, ll.l _ hg⟩
  intro k hk
  rcases hk with hk | hk
  · exact key hfd.acc la k hk
  · exact key hfd.rep lr k hk

theorem LvAt.sel {w : World} {base : Nat} {r : LvR} {ids live keys : List ByteArray} (h : LvAt w base r ids live keys) {b : Bool} {f : Nat} (hf : w.cell? ⟨f, selOff b, none⟩ = some (.pointer (some ⟨r.p, 0, none⟩))) : ∃ p m ai al ci cl, Sel w b f p m ai al ci cl ids live keys := by
  obtain ⟨ai, ci, ei⟩ := own_shape h.oi
  obtain ⟨al, cl, el⟩ := own_shape h.ol
  have oi := h.oi
  have ol := h.ol
  rw [ei] at oi
  rw [el] at ol
  exact ⟨r.p, r.ml, ai, al, ci, cl, hf, by rw [World.cell?, h.blk, ei]; rfl, by rw [World.cell?, h.blk]; rfl, by rw [World.cell?, h.blk, el]; rfl, (Strs.of_own oi).1, (Strs.of_own ol).1, h.lost⟩

theorem Door.acc {w : World} {lo hi f : Nat} {ids live keys ids' live' keys' : List ByteArray} (h : Door w lo hi f ids live keys ids' live' keys') : ∃ p m ai al ci cl, Sel w true f p m ai al ci cl ids live keys := by
  obtain ⟨ra, rr, ⟨⟨mw, t', hb⟩, ha, hr, hf, hap⟩, _⟩ := h
  exact ha.sel (by rw [World.cell?, hb]; rfl)
theorem Door.rep {w : World} {lo hi f : Nat} {ids live keys ids' live' keys' : List ByteArray} (h : Door w lo hi f ids live keys ids' live' keys') : ∃ p m ai al ci cl, Sel w false f p m ai al ci cl ids' live' keys' := by
  obtain ⟨ra, rr, ⟨⟨mw, t', hb⟩, ha, hr, hf, hap⟩, _⟩ := h
  exact hr.sel (by rw [World.cell?, hb]; rfl)

theorem Touch.toBelow {S : Nat → Prop} {w w' : World} {B : Nat} (t : Touch S w w') (hS : ∀ k, S k → B ≤ k) (hB : B ≤ w.heap.size) : Below B w w' :=
  ⟨t.os, t.tape, t.output, t.size, fun k hk => t.block k (by omega) (fun e => by have := hS k e; omega)⟩

theorem without_swap (s : List ByteArray) (a b : ByteArray) : without (without (without s b) a) a = without (without s a) b := by
  simp only [without, List.filter_filter]
  congr 1
  funext t
  cases (t.toList == a.toList) <;> cases (t.toList == b.toList) <;> rfl

end Go.Proofs.Qxb6615949a
