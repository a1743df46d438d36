import Derived.Test.Qxb6616044aFmtB
import Derived.Deep.RegionHeld3
namespace Go.Proofs.Qxb6616044aFmt
open Go.RowKit Go.Extern.Stop Go.Stop Go.Extern
set_option linter.unusedSimpArgs false

theorem hide {p : Prop} (h : p) : Hid p := h

/-- Only blocks of S have been written; new ones may be there. -/
structure Touch (S : Nat → Prop) (w w' : World) : Prop where
  os : w'.os = w.os
  tape : w'.tape = w.tape
  output : w'.output = w.output
  size : w.heap.size ≤ w'.heap.size
  block : ∀ k, k < w.heap.size → ¬ S k → w'.heap[k]? = w.heap[k]?

theorem Touch.refl (S : Nat → Prop) (w : World) : Touch S w w := ⟨rfl, rfl, rfl, Nat.le_refl _, fun _ _ _ => rfl⟩
theorem Touch.trans {S : Nat → Prop} {a b c : World} (h2 : Touch S a b) (h4 : Touch S b c) : Touch S a c :=
  ⟨h4.os.trans h2.os, h4.tape.trans h2.tape, h4.output.trans h2.output, Nat.le_trans h2.size h4.size, fun k hk hne => (h4.block k (Nat.lt_of_lt_of_le hk h2.size) hne).trans (h2.block k hk hne)⟩
theorem Touch.mono {S T : Nat → Prop} {a b : World} (h : Touch S a b) (hs : ∀ k, S k → T k) : Touch T a b :=
  ⟨h.os, h.tape, h.output, h.size, fun k hk hne => h.block k hk (fun h' => hne (hs k h'))⟩
theorem Touch.of_grown {S : Nat → Prop} {a b : World} {g : Option Nat} (h : a.grownBy b g) (hs : ∀ k, g = some k → S k) : Touch S a b :=
  ⟨h.os, h.tape, h.output, h.size, fun k hk hne => h.block k hk (fun e => hne (hs k e.symm))⟩
theorem Touch.of_below {S : Nat → Prop} {a b : World} (h : Below a.heap.size a b) : Touch S a b :=
  ⟨h.os, h.tape, h.output, h.size, fun k hk _ => h.block k hk⟩
theorem Touch.setCell {S : Nat → Prop} (w : World) (a : Addr) (v : Value) (h : S a.block) : Touch S w (w.setCell a v) :=
  ⟨rfl, rfl, rfl, by simp [World.setCell], fun k _ hne => Below.heap_setCell _ _ _ _ (fun e => hne (e ▸ h))⟩
theorem Touch.obj {S : Nat → Prop} {w w' : World} (h : Touch S w w') {b : Nat} {o : Obj} (hb : w.heap[b]? = some o) (hn : ¬ S b) : w'.heap[b]? = some o := (h.block b (block_lt hb) hn).trans hb
theorem Touch.toBelow {S : Nat → Prop} {w w' : World} {B : Nat} (t : Touch S w w') (hS : ∀ k, S k → B ≤ k) (hB : B ≤ w.heap.size) : Below B w w' :=
  ⟨t.os, t.tape, t.output, t.size, fun k hk => t.block k (by omega) (fun e => by have := hS k e; omega)⟩
theorem below_chain {w W W' : World} (h1 : Below w.heap.size w W) (h2 : Below W.heap.size W W') : Below w.heap.size w W' := h1.trans (h2.mono h1.size)


theorem Held.keep {S : Nat → Prop} {w w' : World} {b : Nat} {R : Ent → Value} {G : List Ent} (h : Held w b R G) (t : Touch S w w') (hn : ¬ S b) : Held w' b R G := h.block (t.block b h.lt hn)
theorem cell_block {w : World} {b j : Nat} {cs : Array Value} {t : TypeId} {v : Value} (h : w.heap[b]? = some (.cells cs t (0, 0))) (hj : cs[j]? = some v) : w.cell? ⟨b, j, none⟩ = some v := by
  rw [World.cell?, h]
  simpa using hj
theorem frozen_block {w : World} {b : Nat} {cs : Array Value} {t : TypeId} (h : w.heap[b]? = some (.cells cs t (0, 0))) (j : Nat) : w.frozen? ⟨b, j, none⟩ = false := by rw [World.frozen?, h]; simp

theorem Held.ne {w : World} {b k : Nat} {R : Ent → Value} {G : List Ent} {cs : Array Value} {t : TypeId} {fr : Nat × Nat} (h : Held w b R G) (hk : w.heap[k]? = some (.cells cs t fr)) : k ≠ b := by
  rintro rfl
  obtain ⟨D, ⟨es, clock, h1, _⟩, _⟩ := h
  rw [h1] at hk
  cases hk

def lineR (e : Ent) : Value := .agg #[.int .i64 0, .string ⟨#[]⟩, .int .i64 e.l]
def valR (e : Ent) : Value := .string e.v
theorem zero72 (w : World) : (zeroValue 72).run Tryf.prog w = .ok (.agg #[.int .i64 0, .string ⟨#[]⟩, .int .i64 0]) w := by kernel_rfl
theorem zero9 (w : World) : (zeroValue 9).run Tryf.prog w = .ok (.string ⟨#[]⟩) w := by kernel_rfl

set_option maxHeartbeats 1000000 in
theorem claim_new (lb mf : Nat) (c i what : ByteArray) (l : Int) (v : ByteArray) (G : List Ent) (w : World) (hlb : w.heap[lb]? = some (.cells #[.int .i64 0, .string ⟨#[]⟩, .map (some mf)] 49 (0, 0))) (hH : Held w mf lineR G) (hc : c.size ≤ maxLen) (hi : i.size ≤ maxLen)
    (hn : G.length < maxLen) (hf : findE G c i = none) :
    Calls Tryf.prog 17 #[.pointer (some ⟨lb, 0, none⟩), .agg #[.string c, .string i], .int .i64 l, .string what] w fun e w' => e = .returned .nilIface ∧ Held w' mf lineR (G ++ [⟨c, i, l, v⟩]) ∧ Touch (fun k => k = mf) w w' := by
  have t1 : Touch (fun _ => False) w (w.alloc (.cells #[.string c, .string i] 61)) := Touch.of_below ((Below.refl _ _).alloc (Nat.le_refl _) _)
  have hb1 : (w.alloc (.cells #[.string c, .string i] 61)).heap[w.heap.size]? = some (.cells #[.string c, .string i] 61 (0, 0)) := heap_alloc_new w _
  have hl1 := t1.obj hlb (by simp)
  have hH1 := hH.keep t1 (by simp)
  have hmlt := hH.lt
  go_enter Tryf.func17, Tryf.ntmps17
  go_wp2_with fail
  generalize w.alloc (.cells #[.string c, .string i] 61) = W1 at *
  have k0 := cell_block (j := 0) hb1 rfl
  have k1 := cell_block (j := 1) hb1 rfl
  have k2 := cell_block (j := 2) hl1 rfl
  have hlook : ∀ w', Held w' mf lineR G → (Instr.lookup 45 (.map (some mf)) (.agg #[.string c, .string i]) true).run Tryf.prog w' = .ok (.tuple #[.agg #[.int .i64 0, .string ⟨#[]⟩, .int .i64 0], .bool false]) w' := by
    intro w' h
    have := h.look Tryf.underlying45 (zero72 w') hc hi
    rw [hf] at this
    exact this
  have hlk1 := hlook W1.drew (hH1.block rfl)
  have hlk2 := fun o => hlook (W1.alloc o).drew ((hH1.block ((Below.refl _ _).alloc (Nat.le_refl _) o |>.block _ hH1.lt)).block rfl)
  clear hlook
  have t2 : Touch (fun _ => False) W1 (W1.alloc (.cells #[.int .i64 0, .string ⟨#[]⟩, .int .i64 0] 72)).drew := Touch.of_below ((Below.refl _ _).alloc (Nat.le_refl _) _).drew
  go_region_held3 (fun w' => w'.cell? ⟨w.heap.size, 0, none⟩ = some (.string c) ∧ w'.cell? ⟨w.heap.size, 1, none⟩ = some (.string i) ∧ w'.cell? ⟨lb, 2, none⟩ = some (.map (some mf))) (first | go_keep | assumption) (fail)
  all_goals
    clear hlk1 hlk2
    generalize (W1.alloc (.cells #[.int .i64 0, .string ⟨#[]⟩, .int .i64 0] 72)).drew = W2 at *
    have hb2 := t2.obj hb1 (by simp)
    have hl2 := t2.obj hl1 (by simp)
    have hH2 := hH1.keep t2 (by simp)
    obtain ⟨w3, hrun, hh, hg⟩ := (hH2.block (w' := W2.drew) rfl).put Tryf.underlying45 hn ⟨c, i, l, v⟩ hc hi hf
    have hrun' : (Instr.mapUpdate 45 (.map (some mf)) (.agg #[.string c, .string i]) (.agg #[.int .i64 0, .string ⟨#[]⟩, .int .i64 l])).run Tryf.prog W2.drew = .ok () w3 := hrun
    have t3 : Touch (fun k => k = mf) w w3 := ((t1.mono (by simp)).trans (t2.mono (by simp))).trans ((⟨rfl, rfl, rfl, Nat.le_refl _, fun _ _ _ => rfl⟩ : Touch (fun k => k = mf) W2 W2.drew).trans (Touch.of_grown hg (fun k h => by cases h; rfl)))
    have t4 : Touch (fun k => k = mf) W2 w3 := (⟨rfl, rfl, rfl, Nat.le_refl _, fun _ _ _ => rfl⟩ : Touch (fun k => k = mf) W2 W2.drew).trans (Touch.of_grown hg (fun k h => by cases h; rfl))
    have hb3 := t4.obj hb2 (hH2.ne hb2)
    have hl3 := t4.obj hl2 (hH2.ne hl2)
    have S3 : w3.cell? ⟨w.heap.size, 0, none⟩ = some (.string c) ∧ w3.cell? ⟨w.heap.size, 1, none⟩ = some (.string i) ∧ w3.cell? ⟨lb, 2, none⟩ = some (.map (some mf)) ∧ w3.cell? ⟨lb, 0, none⟩ = some (.int .i64 0) ∧ w3.cell? ⟨lb, 1, none⟩ = some (.string ⟨#[]⟩) :=
      ⟨cell_block hb3 rfl, cell_block hb3 rfl, cell_block hl3 rfl, cell_block hl3 rfl, cell_block hl3 rfl⟩
    have j0 := cell_block (j := 0) hb2 rfl
    have j1 := cell_block (j := 1) hb2 rfl
    have j2 := cell_block (j := 0) hl2 rfl
    have j3 := cell_block (j := 1) hl2 rfl
    have j4 := cell_block (j := 2) hl2 rfl
    clear hrun hg t1 t2 hl1 hb1 hH1 k0 k1 k2
    go_wp2_with fail
    go_region_held3 (fun w' => w'.cell? ⟨w.heap.size, 0, none⟩ = some (.string c) ∧ w'.cell? ⟨w.heap.size, 1, none⟩ = some (.string i) ∧ w'.cell? ⟨lb, 2, none⟩ = some (.map (some mf)) ∧ w'.cell? ⟨lb, 0, none⟩ = some (.int .i64 0) ∧ w'.cell? ⟨lb, 1, none⟩ = some (.string ⟨#[]⟩)) (first | exact S3 | go_keep | assumption) (fail)
    go_wp2
    go_ret
    exact ⟨rfl, hh, t3⟩

set_option maxHeartbeats 1000000 in
theorem claim_old (F : Interp) (lb mf : Nat) (c i what : ByteArray) (l : Int) (G : List Ent) (x : Ent) (w : World) (hF : F.answers w.tape) (hlb : w.heap[lb]? = some (.cells #[.int .i64 0, .string ⟨#[]⟩, .map (some mf)] 49 (0, 0))) (hH : Held w mf lineR G) (hc : c.size ≤ maxLen) (hi : i.size ≤ maxLen)
    (hf : findE G c i = some x) :
    Calls Tryf.prog 17 #[.pointer (some ⟨lb, 0, none⟩), .agg #[.string c, .string i], .int .i64 l, .string what] w fun e w' => ErrRet e ∧ Below w.heap.size w w' := by
  have b1 : Below w.heap.size w (w.alloc (.cells #[.string c, .string i] 61)) := (Below.refl _ _).alloc (Nat.le_refl _) _
  have t1 : Touch (fun _ => False) w (w.alloc (.cells #[.string c, .string i] 61)) := Touch.of_below b1
  have hb1 : (w.alloc (.cells #[.string c, .string i] 61)).heap[w.heap.size]? = some (.cells #[.string c, .string i] 61 (0, 0)) := heap_alloc_new w _
  have hl1 := t1.obj hlb (by simp)
  have hH1 := hH.keep t1 (by simp)
  have hmlt := hH.lt
  go_enter Tryf.func17, Tryf.ntmps17
  go_wp2_with fail
  generalize w.alloc (.cells #[.string c, .string i] 61) = W1 at *
  have k0 := cell_block (j := 0) hb1 rfl
  have k1 := cell_block (j := 1) hb1 rfl
  have k2 := cell_block (j := 2) hl1 rfl
  have hlook : ∀ w', Held w' mf lineR G → (Instr.lookup 45 (.map (some mf)) (.agg #[.string c, .string i]) true).run Tryf.prog w' = .ok (.tuple #[.agg #[.int .i64 0, .string ⟨#[]⟩, .int .i64 x.l], .bool true]) w' := by
    intro w' h
    have := h.look Tryf.underlying45 (zero72 w') hc hi
    rw [hf] at this
    exact this
  have hlk1 := hlook W1.drew (hH1.block rfl)
  have hlk2 := fun o => hlook (W1.alloc o).drew ((hH1.block ((Below.refl _ _).alloc (Nat.le_refl _) o |>.block _ hH1.lt)).block rfl)
  clear hlook
  have b2 : Below W1.heap.size W1 (W1.alloc (.cells #[.int .i64 0, .string ⟨#[]⟩, .int .i64 x.l] 72)).drew := ((Below.refl _ _).alloc (Nat.le_refl _) _).drew
  have hn2 : (W1.alloc (.cells #[.int .i64 0, .string ⟨#[]⟩, .int .i64 x.l] 72)).drew.heap[W1.heap.size]? = some (.cells #[.int .i64 0, .string ⟨#[]⟩, .int .i64 x.l] 72 (0, 0)) := heap_alloc_new W1 _
  go_region_held3 (fun w' => w'.cell? ⟨w.heap.size, 0, none⟩ = some (.string c) ∧ w'.cell? ⟨w.heap.size, 1, none⟩ = some (.string i) ∧ w'.cell? ⟨lb, 2, none⟩ = some (.map (some mf))) (first | go_keep | assumption) (fail)
  all_goals
    clear hlk1 hlk2
    generalize (W1.alloc (.cells #[.int .i64 0, .string ⟨#[]⟩, .int .i64 x.l] 72)).drew = W2 at *
    have hl2 := (Touch.of_below (S := fun _ => False) b2).obj hl1 (by simp)
    have B2 := below_chain b1 b2
    generalize W1.heap.size = N at *
    have j0 := cell_block (j := 0) hn2 rfl
    have j1 := cell_block (j := 2) hn2 rfl
    have j2 := cell_block (j := 0) hl2 rfl
    clear t1 hl1 hb1 hH1 k0 k1 k2 b1 b2
    go_wp2_with fail
    go_region_held3 (fun w' => w'.cell? ⟨N, 0, none⟩ = some (.int .i64 0) ∧ w'.cell? ⟨lb, 0, none⟩ = some (.int .i64 0)) (first | go_keep | assumption) (fail)
    have hF2 : F.answers W2.tape := by rw [B2.tape]; exact hF
    go_wp2_with fail
    refine (errorf_any F what x.l W2.heap.size _ (by exact hF2) (by go_simp) (by go_simp)).mono ?_
    rintro e W3 ⟨⟨q, rfl⟩, b3⟩
    go_wp2
    go_ret
    exact ⟨⟨q, rfl⟩, below_chain (below_chain B2 ((Below.refl _ _).alloc (Nat.le_refl _) _).drew) b3⟩

end Go.Proofs.Qxb6616044aFmt
