import Derived.Test.Qxb6615960aFmtE
import Derived.DeepKeys
import Derived.Laws.Tables
namespace Go.Proofs.Qxb6615960aFmt
open Go.RowKit
set_option linter.unusedSimpArgs false

/-- The slice over 'a' reads as the bytes T. -/
def BytesAt (w : World) (a : Option Addr) (T : List UInt8) : Prop := ∀ i, i < T.length → ∃ b off, a = some ⟨b, off, none⟩ ∧ w.cell? ⟨b, off + i, none⟩ = some (.int .u8 (T.getD i 0).toNat)
theorem BytesAt.below {w w' : World} {a : Option Addr} {T : List UInt8} (h : BytesAt w a T) (hb : Below w.heap.size w w') : BytesAt w' a T := by
  intro i hi
  obtain ⟨b, off, rfl, hc⟩ := h i hi
  exact ⟨b, off, rfl, by rw [hb.cell (p := ⟨b, off + i, none⟩) (cell_lt hc)]; exact hc⟩
theorem BytesAt.news {w : World} {a : Option Addr} {T : List UInt8} (h : BytesAt w a T) : ∀ ad, a = some ad → ∀ j u, (bs T)[j]? = some u → w.cell? (ad.add j) = some u := by
  intro ad had j u hj
  have hlt : j < T.length := by have := (List.getElem?_eq_some_iff.1 hj).1; rwa [bs_length] at this
  obtain ⟨b, off, e, hc⟩ := h j hlt
  rw [had] at e
  cases e
  rw [Addr.add_mid, hc]
  rw [bs, List.getElem?_map, List.getElem?_eq_getElem hlt] at hj
  simp [List.getD_eq_getElem?_getD, hlt]
  simpa using hj

theorem Tryf.info5 : (Tryf.prog.info? 5).map (fun i => (i.zero, i.size, i.bytes)) = some (some (.int .u8 0), 1, 1) := by kernel_rfl
theorem Tryf.size41 : (Tryf.prog.info? 41).map (·.size) = some 8 := by kernel_rfl
theorem Tryf.size42 : (Tryf.prog.info? 42).map (·.size) = some 20 := by kernel_rfl

/-- The three boxes. -/
def Boxes (W : World) (N : Nat) (R I P : List UInt8) : Prop :=
  W.heap[N]? = some (.cells (bs R).toArray 41 (0, 0)) ∧ W.heap[N + 1]? = some (.cells (bs I).toArray 42 (0, 0)) ∧ W.heap[N + 2]? = some (.cells (bs P).toArray 42 (0, 0))
theorem Boxes.keep {W W' : World} {N : Nat} {R I P : List UInt8} (h : Boxes W N R I P) (hb : Below W.heap.size W W') : Boxes W' N R I P := by
  obtain ⟨h1, h2, h3⟩ := h
  exact ⟨(hb.block _ (block_lt h1)).trans h1, (hb.block _ (block_lt h2)).trans h2, (hb.block _ (block_lt h3)).trans h3⟩
theorem whole {w : World} {b : Nat} {X : List UInt8} {t : TypeId} {fr : Nat × Nat} (h : w.heap[b]? = some (.cells (bs X).toArray t fr)) : w.rangeAt b 0 (bs X) := by
  have := range_of_block h 0 X.length
  rwa [List.drop_zero, List.take_of_length_le (Nat.le_refl _)] at this

theorem bytesIn_of_own {w : World} {base g n c : Nat} {L : List UInt8} (h : w.ownsRow base 5 1 (.slice (some ⟨g, 0, none⟩) n c) n (bs L)) : BytesIn w g L := by
  obtain ⟨hl, h'⟩ := h
  rw [bs_length] at hl
  rcases h' with ⟨hv, _⟩ | ⟨g', cap', cur, hv, hgb, hh, r1, r2, r3, r4⟩
  · simp at hv
  simp only [Value.slice.injEq, Option.some.injEq, Addr.mk.injEq, and_true, true_and] at hv
  obtain ⟨rfl, rfl⟩ := hv
  exact ⟨cur, 5, hh, by rw [hl]; exact r4⟩
theorem block_of_own {w : World} {base g n : Nat} {xs : List Value} (h : w.ownsRow base 5 1 (.slice (some ⟨g, 0, none⟩) n n) n xs) : ∃ cur : List Value, w.heap[g]? = some (.cells cur.toArray 5 (0, 0)) ∧ cur.length = n := by
  obtain ⟨hl, h'⟩ := h
  rcases h' with ⟨hv, _⟩ | ⟨g', cap', cur, hv, hgb, hh, r1, r2, r3, r4⟩
  · simp at hv
  simp only [Value.slice.injEq, Option.some.injEq, Addr.mk.injEq, and_true, true_and] at hv
  obtain ⟨rfl, rfl⟩ := hv
  exact ⟨cur.toList, by simpa using hh, by simpa using r3⟩

/-- The handshake as the protocol has it. -/
def good (R I P T : List UInt8) : List UInt8 := [19] ++ proto ++ R ++ I ++ P ++ T
theorem good_cells (R I P T : List UInt8) : bs [19] ++ Lib.strCells { data := #[66, 105, 116, 84, 111, 114, 114, 101, 110, 116, 32, 112, 114, 111, 116, 111, 99, 111, 108] } ++ bs R ++ bs I ++ bs P ++ bs T = bs (good R I P T) := by
  have e : Lib.strCells { data := #[66, 105, 116, 84, 111, 114, 114, 101, 110, 116, 32, 112, 114, 111, 116, 111, 99, 111, 108] } = bs proto := rfl
  rw [e]
  simp only [bs, good, List.map_append]
theorem good_length (R I P T : List UInt8) (hR : R.length = 8) (hI : I.length = 20) (hP : P.length = 20) : (good R I P T).length = 68 + T.length := by
  simp only [good, List.length_append, hR, hI, hP]
  show 1 + 19 + 8 + 20 + 20 + T.length = _
  omega
theorem bytesIn_at {w : World} {g j : Nat} {L : List UInt8} (h : BytesIn w g L) (hj : j < L.length) : w.cell? ⟨g, j, none⟩ = some (.int .u8 (L.getD j 0).toNat) := by
  refine h.cell ?_
  rw [bs, List.getElem?_map, List.getElem?_eq_getElem hj]
  simp [List.getD_eq_getElem?_getD, hj]
theorem frozen_of {w : World} {b : Nat} {cs : Array Value} {t : TypeId} (h : w.heap[b]? = some (.cells cs t (0, 0))) (j : Nat) : w.frozen? ⟨b, j, none⟩ = false := by rw [World.frozen?, h]; simp

theorem xor_byte (x f : UInt8) : bits .xor .u8 (x.toNat : Int) (f.toNat : Int) = ((x ^^^ f).toNat : Int) := by
  rw [u8_xor_nat x.toNat f.toNat (UInt8.toNat_lt _) (UInt8.toNat_lt _), UInt8.toNat_xor]
theorem good_head (R I P T : List UInt8) : (good R I P T).take 20 = 19 :: proto := by
  unfold good
  rw [List.append_assoc, List.append_assoc, List.append_assoc]
  exact List.take_left' (l₁ := [19] ++ proto) rfl
theorem good_mid (R I P T : List UInt8) (hR : R.length = 8) (hI : I.length = 20) (hP : P.length = 20) : ((good R I P T).drop 20).take 48 = R ++ I ++ P := by
  have e : good R I P T = ([19] ++ proto) ++ ((R ++ I ++ P) ++ T) := by simp only [good, List.append_assoc]
  have d : (([19] ++ proto) ++ ((R ++ I ++ P) ++ T)).drop 20 = (R ++ I ++ P) ++ T := List.drop_left' (l₁ := [19] ++ proto) rfl
  rw [e, d]
  exact List.take_left' (by simp [hR, hI, hP])
theorem xor_ne (x f : UInt8) (hf : f ≠ 0) : x ^^^ f ≠ x := by
  intro e
  apply hf
  have h : x ^^^ (x ^^^ f) = x ^^^ x := by rw [e]
  rw [← UInt8.xor_assoc, UInt8.xor_self, UInt8.zero_xor] at h
  exact h
theorem bad_head (R I P T : List UInt8) (j : Nat) (f : UInt8) (hj : j ≤ 19) (hf : f ≠ 0) (hl : j < (good R I P T).length) : ((good R I P T).set j ((good R I P T).getD j 0 ^^^ f)).take 20 ≠ 19 :: proto := by
  intro e
  rw [← good_head R I P T] at e
  have h : (((good R I P T).set j ((good R I P T).getD j 0 ^^^ f)).take 20)[j]? = ((good R I P T).take 20)[j]? := by rw [e]
  rw [List.getElem?_take_of_lt (by omega), List.getElem?_take_of_lt (by omega), List.getElem?_set_self (by simpa using hl), List.getElem?_eq_getElem hl] at h
  have := Option.some.inj h
  rw [List.getD_eq_getElem?_getD, List.getElem?_eq_getElem hl] at this
  exact xor_ne _ _ hf this
theorem bytesIn_set {w : World} {g j : Nat} {L : List UInt8} (h : BytesIn w g L) (v : UInt8) : BytesIn (w.setCell ⟨g, j, none⟩ (.int .u8 v.toNat)) g (L.set j v) := by
  obtain ⟨cur, t, hb, hc⟩ := h
  refine ⟨cur.setIfInBounds j (.int .u8 v.toNat), t, heap_setCell_same w g j cur t _ hb, ?_⟩
  rw [Array.toList_setIfInBounds, List.length_set, List.take_set, hc, bs, bs, List.map_set]

theorem mapM_some {α β : Type} {f : α → Option β} : ∀ (l : List α), (∀ x ∈ l, ∃ y, f x = some y) → ∃ ys, l.mapM f = some ys := by
  intro l
  induction l with
  | nil => intro _; exact ⟨[], rfl⟩
  | cons a l ih =>
    intro h
    obtain ⟨y, hy⟩ := h a (List.mem_cons_self ..)
    obtain ⟨ys, hys⟩ := ih (fun x hx => h x (List.mem_cons_of_mem _ hx))
    exact ⟨y :: ys, by rw [List.mapM_cons, hy, hys]; rfl⟩
theorem lits_byte (b : UInt8) : ∃ L, Tryf.prog.keyLits 1 5 [.int .u8 b.toNat] = some L := by
  have hu : Tryf.prog.underlying 5 = some (.int .u8) := by kernel_rfl
  refine ⟨[.int .u8 b.toNat], ?_⟩
  unfold Program.keyLits
  rw [hu]
  have : (Lit.int .u8 b.toNat).wf = true := by
    have := UInt8.toNat_lt b
    have h0 : IntKind.u8.min = 0 := rfl
    have h1 : IntKind.u8.max = 255 := rfl
    simp only [Lit.wf, h0, h1, Bool.and_eq_true, decide_eq_true_eq]
    omega
  simp [this]
theorem lits_arr {t : TypeId} {n : Nat} (X : List UInt8) (hu : Tryf.prog.underlying t = some (.array n 5)) (hc : Tryf.prog.cellsOf t = n) (hX : X.length = n) : ∃ L, Tryf.prog.keyLits 2 t (bs X) = some L := by
  have h5 : Tryf.prog.cellsOf 5 = 1 := by kernel_rfl
  unfold Program.keyLits
  rw [hu]
  simp only [hc, bs_length, hX, if_true, h5, Nat.mul_one]
  obtain ⟨ys, h⟩ := mapM_some (f := fun i => Tryf.prog.keyLits 1 5 (((bs X).drop i).take 1)) (List.range n) (fun i hi => by
    rw [List.mem_range] at hi
    rw [bs, ← List.map_drop, List.drop_eq_getElem_cons (by omega), List.map_cons, List.take_succ_cons, List.take_zero]
    exact lits_byte _)
  exact ⟨_, by rw [h]; rfl⟩
theorem lits44 (X : List UInt8) (hX : X.length = 48) : ∃ L, Tryf.prog.keyLits 3 44 (bs X) = some L := by
  have hu := Tryf.underlying44
  have hc : Tryf.prog.cellsOf 44 = 48 := by kernel_rfl
  have h1 : Tryf.prog.cellsOf 41 = 8 := by kernel_rfl
  have h2 : Tryf.prog.cellsOf 42 = 20 := by kernel_rfl
  unfold Program.keyLits
  rw [hu]
  have cut : ∀ o m, ((bs X).drop o).take m = bs ((X.drop o).take m) := fun o m => by simp only [bs, List.map_drop, List.map_take]
  obtain ⟨a, ha⟩ := lits_arr (t := 41) ((X.drop 0).take 8) (by exact Tryf.underlying41) h1 (by simp [hX])
  obtain ⟨b, hb⟩ := lits_arr (t := 42) ((X.drop 8).take 20) (by exact Tryf.underlying42) h2 (by simp [hX])
  obtain ⟨c, hc'⟩ := lits_arr (t := 42) ((X.drop 28).take 20) (by exact Tryf.underlying42) h2 (by simp [hX])
  simp only [hc, bs_length, hX, h1, h2, cut]
  rw [List.drop_zero] at ha
  simp [hX, ha, hb, hc', h1, h2]
theorem eq44 (X : List UInt8) (hX : X.length = 48) (w : World) : (binOp .eql 44 (.agg (bs X).toArray) (.agg (bs X).toArray)).run Tryf.prog w = .ok (.bool true) w := by
  obtain ⟨L, hL⟩ := lits44 X hX
  have hf : (Value.agg (bs X).toArray).formed Tryf.prog 44 = true := by
    have hc : Tryf.prog.cellsOf 44 = 48 := by kernel_rfl
    simp [Value.formed, Tryf.underlying44, hc, bs_length, hX]
  obtain ⟨r, hr, hiff⟩ := run_equalIn_deep (P := Tryf.prog) 9997 3 44 (by kernel_rfl) w 3 3 _ _ L L hf hf (by exact hL) (by exact hL)
  have : r = true := hiff.2 rfl
  subst this
  rw [run_eql_struct]
  rw [show 9997 + 3 = 10000 from rfl] at hr
  rw [hr]
  rfl

theorem range_keep {w w' : World} {b o : Nat} {cs : List Value} (h : w.rangeAt b o cs) (hb : Below w.heap.size w w') : w'.rangeAt b o cs := by
  intro j v hj
  have := h j v hj
  rw [hb.cell (cell_lt this)]
  exact this
/-- A new box of type 44, stored once. -/
theorem box44 (W : World) (Z M : List UInt8) (hZ : Z.length = 48) (hM : M.length = 48) :
    (W.alloc (.cells (bs Z).toArray 44)).there W.heap.size 0 (bs M).toArray.size ∧
    ((W.alloc (.cells (bs Z).toArray 44)).setCells W.heap.size 0 (bs M)).rangeAt W.heap.size 0 (bs M) ∧
    Below W.heap.size W ((W.alloc (.cells (bs Z).toArray 44)).setCells W.heap.size 0 (bs M)) := by
  have e48 : (bs Z).toArray.size = 48 := by rw [List.size_toArray, bs_length, hZ]
  have f48 : (bs M).toArray.size = 48 := by rw [List.size_toArray, bs_length, hM]
  have hn : (W.alloc (.cells (bs Z).toArray 44)).heap[W.heap.size]? = some (.cells (bs Z).toArray 44 (0, 0)) := heap_alloc_new W _
  have st : (W.alloc (.cells (bs Z).toArray 44)).there W.heap.size 0 (bs M).toArray.size := by rw [f48]; exact there_of_block hn 48 (by omega)
  have t4 := touch_setCells W.heap.size (bs M) 0 (W.alloc (.cells (bs Z).toArray 44))
  have b0 : Below W.heap.size W (W.alloc (.cells (bs Z).toArray 44)) := (Below.refl _ _).alloc (Nat.le_refl _) _
  refine ⟨st, World.rangeAt_setCells_same _ W.heap.size 0 _ (by rw [← List.size_toArray]; exact st), b0.trans (t4.toBelow (fun k h => by omega) b0.size)⟩

theorem put_list : ∀ (vs : List Value) (o k : Nat) (L : List Value), o + k + vs.length ≤ L.length → List.foldl (fun (cs : Array Value) (x : Value × Nat) => cs.setIfInBounds (o + x.2) x.1) L.toArray (vs.zipIdx k) = (L.take (o + k) ++ vs ++ L.drop (o + k + vs.length)).toArray := by
  intro vs
  induction vs with
  | nil => intro o k L _; simp
  | cons v vs ih =>
    intro o k L h
    rw [List.length_cons] at h
    rw [List.zipIdx_cons, List.foldl_cons]
    show List.foldl _ (L.toArray.setIfInBounds (o + k) v) _ = _
    rw [List.setIfInBounds_toArray, ih o (k + 1) (L.set (o + k) v) (by rw [List.length_set]; omega)]
    have e1 : (L.set (o + k) v).take (o + (k + 1)) = L.take (o + k) ++ [v] := by
      rw [show o + (k + 1) = (o + k) + 1 from by omega, List.take_add_one, List.take_set_of_le (Nat.le_refl _), List.getElem?_set_self (by omega)]
      rfl
    have e2 : (L.set (o + k) v).drop (o + (k + 1) + vs.length) = L.drop (o + (k + 1) + vs.length) := List.drop_set_of_lt (by omega)
    rw [e1, e2, List.length_cons, show o + k + (vs.length + 1) = o + (k + 1) + vs.length from by omega]
    simp
theorem fill_cons (place : Nat → Option (Nat × Nat)) (L vs : List Value) (i o n : Nat) (rest : List (Nat × Value)) (hp : place i = some (o, n)) (hn : vs.length = n) (ho : o + n ≤ L.length) :
    Instr.fill place L.toArray ((i, .agg vs.toArray) :: rest) = Instr.fill place (L.take o ++ vs ++ L.drop (o + n)).toArray rest := by
  have e := put_list vs o 0 L (by omega)
  rw [Instr.fill, hp]
  show (if _ then _ else _) = _
  rw [Nat.add_zero] at e
  have hc : (Value.agg vs.toArray).cells = vs.toArray := rfl
  simp only [hc]
  simp [hn, e]
  intro h
  omega

theorem wpList_build3 {Q : Program} {ops : Array Oper} {rest : List Oper} {op : Oper} {a : Act} {w : World} {Q' : Exit → Act → World → Prop} (hgd : op.guard = none) (t : TypeId) (x y z : Operand) (ho : op.op = .build t #[(0, x), (1, y), (2, z)])
    (u v s : Value) (hx : a.eval x = u) (hy : a.eval y = v) (hz : a.eval z = s)
    (cells : Array Value) (hb : Q.built t [(0, u), (1, v), (2, s)] = some cells) (h : wpList Q ops Q' rest (a.put op.dst (.agg cells)) w) : wpList Q ops Q' (op :: rest) a w := by
  subst hx hy hz
  exact wpList_plain hgd fun _ hK => wp_build t _ ho (by simp [hb]) (by simp [hb]; exact hK _ _ h)
theorem wp_build_zero {Q : Program} {op : Oper} {a : Act} {w : World} {K : Act → World → Prop} {Q' : Exit → Act → World → Prop} (t : TypeId) (ho : op.op = .build t #[])
    (cells : Array Value) (hb : Q.built t [] = some cells) (h : K (a.put op.dst (.agg cells)) w) : op.wp Q a w K Q' :=
  wp_build t _ ho (by simp [hb]) (by simp [hb]; exact h)
theorem wp_eq44 {op : Oper} {a : Act} {w : World} {K : Act → World → Prop} {Q' : Exit → Act → World → Prop} (x y : Operand) (ho : op.op = .binOp .eql 44 x y 44) (X : List UInt8) (hX : X.length = 48)
    (hx : a.eval x = .agg (bs X).toArray) (hy : a.eval y = .agg (bs X).toArray) (h : K (a.put op.dst (.bool true)) w) : op.wp Tryf.prog a w K Q' := by
  have hm : Tryf.prog.eqGuardType Tryf.prog.depth 44 = false := by kernel_rfl
  unfold Oper.wp execOp
  simp only [ho, hx, hy, Sem.run_bind, run_eqGuard_agg w .eql 44 x y _ _ hm, eq44 X hX w, Result.andThen_ok]
  exact h
theorem built44 (R I P : List UInt8) (hR : R.length = 8) (hI : I.length = 20) (hP : P.length = 20) : Tryf.prog.built 44 [(0, .agg (bs R).toArray), (1, .agg (bs I).toArray), (2, .agg (bs P).toArray)] = some (bs (R ++ I ++ P)).toArray := by
  have e : Tryf.prog.built 44 [(0, .agg (bs R).toArray), (1, .agg (bs I).toArray), (2, .agg (bs P).toArray)] = Instr.fill (#[(0, 8), (8, 20), (28, 20)][·]?) (zc 48) [(0, .agg (bs R).toArray), (1, .agg (bs I).toArray), (2, .agg (bs P).toArray)] := by kernel_rfl
  rw [e]
  have hz : zc 48 = (bs (zs 48)).toArray := rfl
  rw [hz]
  generalize hZ : zs 48 = Z
  have hZl : (bs Z).length = 48 := by rw [← hZ]; rfl
  have lR : (bs R).length = 8 := by rw [bs_length, hR]
  have lI : (bs I).length = 20 := by rw [bs_length, hI]
  have lP : (bs P).length = 20 := by rw [bs_length, hP]
  clear hZ hz e hR hI hP
  have app : bs (R ++ I ++ P) = bs R ++ bs I ++ bs P := by simp only [bs, List.map_append]
  rw [app]
  generalize bs R = r at *
  generalize bs I = i at *
  generalize bs P = q at *
  generalize bs Z = z at *
  rw [fill_cons _ z r 0 0 8 _ rfl lR (by omega)]
  rw [fill_cons _ _ i 1 8 20 _ rfl lI (by simp; omega)]
  rw [fill_cons _ _ q 2 28 20 _ rfl lP (by simp; omega)]
  simp only [Instr.fill, List.take_zero, List.nil_append]
  congr 2
  have e1 : (r ++ z.drop (0 + 8)).take 8 = r := List.take_left' lR
  rw [e1]
  have e2 : (r ++ i ++ (r ++ z.drop (0 + 8)).drop (8 + 20)).take 28 = r ++ i := List.take_left' (by simp [lR, lI])
  rw [e2]
  have e3 : (r ++ i ++ (r ++ z.drop (0 + 8)).drop (8 + 20)).drop (28 + 20) = [] := List.drop_of_length_le (by simp [lR, lI]; omega)
  rw [e3, List.append_nil]

theorem built44_zero : Tryf.prog.built 44 [] = some (bs (zs 48)).toArray := by kernel_rfl

theorem wpList_load44_want {ops : Array Oper} {rest : List Oper} {op : Oper} {a : Act} {w : World} {Q' : Exit → Act → World → Prop} (x : Operand) (ho : op.op = .load 44 x) (b : Nat) (X : List UInt8) (hX : X.length = 48) (hc : w.rangeAt b 0 (bs X))
    (hx : a.eval x = .pointer (some ⟨b, 0, none⟩)) (hw : Region.wanted op (yielded ops a.tmps) = true) (h : wpList Tryf.prog ops Q' rest (a.put op.dst (.agg (bs X).toArray)) w) : wpList Tryf.prog ops Q' (op :: rest) a w :=
  BigFrame.wpList_want hw fun _ hK => wp_load_mid 44 x ho b 0 hx (bs X) _ hc Tryf.underlying44 rfl (by rw [bs_length, hX]; exact Tryf.size44) (hK _ _ h)
theorem wpList_eq44_want {ops : Array Oper} {rest : List Oper} {op : Oper} {a : Act} {w : World} {Q' : Exit → Act → World → Prop} (x y : Operand) (ho : op.op = .binOp .eql 44 x y 44) (X : List UInt8) (hX : X.length = 48)
    (hx : a.eval x = .agg (bs X).toArray) (hy : a.eval y = .agg (bs X).toArray) (hw : Region.wanted op (yielded ops a.tmps) = true) (h : wpList Tryf.prog ops Q' rest (a.put op.dst (.bool true)) w) : wpList Tryf.prog ops Q' (op :: rest) a w :=
  BigFrame.wpList_want hw fun _ hK => wp_eq44 x y ho X hX hx hy (hK _ _ h)
theorem wpList_zero44_want {ops : Array Oper} {rest : List Oper} {op : Oper} {a : Act} {w : World} {Q' : Exit → Act → World → Prop} (ho : op.op = .build 44 #[]) (cells : Array Value) (hb : Tryf.prog.built 44 [] = some cells)
    (hw : Region.wanted op (yielded ops a.tmps) = true) (h : wpList Tryf.prog ops Q' rest (a.put op.dst (.agg cells)) w) : wpList Tryf.prog ops Q' (op :: rest) a w :=
  BigFrame.wpList_want hw fun _ hK => wp_build_zero 44 ho cells hb (hK _ _ h)

end Go.Proofs.Qxb6615960aFmt
