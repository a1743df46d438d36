import Derived.Test.Qxb6615949aH
import Derived.Deep.RegionHeld3
namespace Go.Proofs.Qxb6615949a
open Go.RowKit

/-- The cells of the two boxes. -/
def BoxC (W : World) (N : Nat) (x1 x2 x3 x4 x5 x6 : Value) : Prop :=
  W.cell? ⟨N, 0, none⟩ = some x1 ∧ W.cell? ⟨N, 1, none⟩ = some x2 ∧ W.cell? ⟨N, 2, none⟩ = some x3 ∧ W.cell? ⟨N + 1, 0, none⟩ = some x4 ∧ W.cell? ⟨N + 1, 1, none⟩ = some x5 ∧ W.cell? ⟨N + 1, 2, none⟩ = some x6

theorem cell_keep {W W' : World} (hb : Below W.heap.size W W') {a : Addr} {v : Value} (h : W.cell? a = some v) : W'.cell? a = some v := by
  rw [hb.cell (cell_lt h)]; exact h

theorem cell_top {w : World} {cs : Array Value} {t N : Nat} {j : Nat} {v : Value} (hN : w.heap.size = N) (h : cs[j]? = some v) : (w.alloc (.cells cs t)).cell? ⟨N, j, none⟩ = some v := by
  subst hN
  rw [cell_of_row _ _ _ _ _ _ (heap_alloc_new w _)]; exact h
theorem cell_al {w : World} {a : Addr} {v : Value} (h : w.cell? a = some v) (o : Obj) : (w.alloc o).cell? a = some v := Lib.cell?_alloc_some o h

theorem BoxC.keep {W W' : World} {N : Nat} {x1 x2 x3 x4 x5 x6 : Value} (h : BoxC W N x1 x2 x3 x4 x5 x6) (hb : Below W.heap.size W W') : BoxC W' N x1 x2 x3 x4 x5 x6 := by
  obtain ⟨g1, g2, g3, g4, g5, g6⟩ := h
  exact ⟨cell_keep hb g1, cell_keep hb g2, cell_keep hb g3, cell_keep hb g4, cell_keep hb g5, cell_keep hb g6⟩

theorem own_base {w : World} {b b' e n : Nat} {v : Value} {xs : List Value} (h : w.ownsRow b' e 1 v n xs) (hb : b ≤ b') : w.ownsRow b e 1 v n xs := by
  refine ⟨h.1, ?_⟩
  rcases h.2 with h' | ⟨g, cap, cur, hv, hg, r⟩
  · exact .inl h'
  · exact .inr ⟨g, cap, cur, hv, by omega, r⟩

theorem own_keep {W W' : World} (hb : Below W.heap.size W W') {b e n : Nat} {v : Value} {xs : List Value} (h : W.ownsRow b e 1 v n xs) : W'.ownsRow b e 1 v n xs :=
  (Touch.of_below (S := fun _ => False) hb).own h (by simp)
theorem lost_keep {W W' : World} (hb : Below W.heap.size W W') {b : Nat} {keys : List ByteArray} (h : LostAt W b keys) : LostAt W' b keys := h.block (hb.block _ h.lt)
theorem below_chain {w W W' : World} (h1 : Below w.heap.size w W) (h2 : Below W.heap.size W W') : Below w.heap.size w W' := h1.trans (h2.mono h1.size)
/-- What was made earlier lies lower. -/
theorem own_apart {W W' : World} {b b' e e' n n' : Nat} {v v' : Value} {xs xs' : List Value} (h : W.ownsRow b e 1 v n xs) (h' : W'.ownsRow b' e' 1 v' n' xs') (hle : W.heap.size ≤ b') : ∀ g, v.ownBlock = some g → v'.ownBlock ≠ some g := fun g hg hg' => by
  have := (own_lt h hg).1
  have := (own_lt h' hg').2.1
  omega

theorem newFD_of {w W0 w1 w2 w3 w4 w5 w6 : World} {v1 v2 v4 v5 : Value} {s1 s2 s3 s4 s5 s6 : List ByteArray} (B0 : Below w.heap.size w W0)
    (o1 : w1.ownsRow W0.heap.size 9 1 v1 s1.length (s1.map Value.string)) (b1 : Below W0.heap.size W0 w1) (o2 : w2.ownsRow w1.heap.size 9 1 v2 s2.length (s2.map Value.string)) (b2 : Below w1.heap.size w1 w2)
    (o3 : LostAt w3 w2.heap.size s3) (b3 : Below w2.heap.size w2 w3) (o4 : w4.ownsRow w3.heap.size 9 1 v4 s4.length (s4.map Value.string)) (b4 : Below w3.heap.size w3 w4)
    (o5 : w5.ownsRow w4.heap.size 9 1 v5 s5.length (s5.map Value.string)) (b5 : Below w4.heap.size w4 w5) (o6 : LostAt w6 w5.heap.size s6) (b6 : Below w5.heap.size w5 w6) :
    Calls Try.prog 26 #[v1, v2, .map (some w2.heap.size), v4, v5, .map (some w5.heap.size), .int .u64 0, .slice none 0 0] w6 fun e w' => ∃ f ra rr, e = .returned (.pointer (some ⟨f, 0, none⟩)) ∧ FDAt w' w.heap.size f ra rr s1 s2 s3 s4 s5 s6 ∧ Below w6.heap.size w6 w' := by
  have z0 := B0.size
  have z1 := b1.size
  have z2 := b2.size
  have z3 := b3.size
  have z4 := b4.size
  have z5 := b5.size
  have z6 := b6.size
  have l3 := o3.lt
  exact newFD_any w.heap.size v1 v2 v4 v5 w2.heap.size w5.heap.size 0 s1 s2 s3 s4 s5 s6 w6 (by omega)
    (own_keep b6 (own_keep b5 (own_keep b4 (own_keep b3 (own_keep b2 (own_base o1 (by omega))))))) (own_keep b6 (own_keep b5 (own_keep b4 (own_keep b3 (own_base o2 (by omega)))))) (lost_keep b6 (lost_keep b5 (lost_keep b4 o3)))
    (own_keep b6 (own_keep b5 (own_base o4 (by omega)))) (own_keep b6 (own_base o5 (by omega))) o6 (by omega) (by omega) (by omega)
    (own_apart o1 o2 (by omega)) (own_apart o4 o5 (by omega)) (own_apart o2 o5 (by omega)) (own_apart o2 o4 (by omega)) (own_apart o1 o5 (by omega))

set_option maxHeartbeats 4000000 in
set_option maxRecDepth 100000 in
theorem build_any (a1 a2 a3 a4 a5 a6 : Option Addr) (c1 c2 c3 c4 c5 c6 : Nat) (s1 s2 s3 s4 s5 s6 : List ByteArray) (w : World) (h1 : Strs w a1 s1) (h2 : Strs w a2 s2) (h3 : Strs w a3 s3) (h4 : Strs w a4 s4) (h5 : Strs w a5 s5) (h6 : Strs w a6 s6)
    (n1 : s1.length * 16 ≤ 140737488351232) (n2 : s2.length * 16 ≤ 140737488351232) (n3 : s3.length * 16 ≤ 140737488351232) (n4 : s4.length * 16 ≤ 140737488351232) (n5 : s5.length * 16 ≤ 140737488351232) (n6 : s6.length * 16 ≤ 140737488351232)
    (e1 : a1 = none → s1 = [] ∧ c1 = 0) (e2 : a2 = none → s2 = [] ∧ c2 = 0) (e4 : a4 = none → s4 = [] ∧ c4 = 0) (e5 : a5 = none → s5 = [] ∧ c5 = 0) (z3 : ∀ s ∈ s3, s.size ≤ maxLen) (z6 : ∀ s ∈ s6, s.size ≤ maxLen) :
    Calls Try.prog 18 #[.agg #[.slice a1 s1.length c1, .slice a2 s2.length c2, .slice a3 s3.length c3], .agg #[.slice a4 s4.length c4, .slice a5 s5.length c5, .slice a6 s6.length c6], .agg #[.bool false, .int .u64 0, .slice none 0 0, .slice none 0 0], .int .u64 0, .slice none 0 0, .slice none 0 0] w
      fun e w' => ∃ f ra rr, e = .returned (.pointer (some ⟨f, 0, none⟩)) ∧ FDAt w' w.heap.size f ra rr s1 s2 s3 s4 s5 s6 ∧ Below w.heap.size w w' := by
  have B0 : Below w.heap.size w ((((w.alloc (.cells #[.slice a1 s1.length c1, .slice a2 s2.length c2, .slice a3 s3.length c3] 38)).alloc (.cells #[.slice a4 s4.length c4, .slice a5 s5.length c5, .slice a6 s6.length c6] 38)).alloc (.cells #[.bool false, .int .u64 0, .slice none 0 0, .slice none 0 0] 43)).drew) := by repeat (first | exact Below.refl _ _ | apply Below.drew | refine Below.alloc ?_ (by simp <;> omega) _)
  have S0 : BoxC ((((w.alloc (.cells #[.slice a1 s1.length c1, .slice a2 s2.length c2, .slice a3 s3.length c3] 38)).alloc (.cells #[.slice a4 s4.length c4, .slice a5 s5.length c5, .slice a6 s6.length c6] 38)).alloc (.cells #[.bool false, .int .u64 0, .slice none 0 0, .slice none 0 0] 43)).drew) w.heap.size (.slice a1 s1.length c1) (.slice a2 s2.length c2) (.slice a3 s3.length c3) (.slice a4 s4.length c4) (.slice a5 s5.length c5) (.slice a6 s6.length c6) := ⟨cell_al (cell_al (cell_top rfl rfl) _) _, cell_al (cell_al (cell_top rfl rfl) _) _, cell_al (cell_al (cell_top rfl rfl) _) _, cell_al (cell_top (by simp) rfl) _, cell_al (cell_top (by simp) rfl) _, cell_al (cell_top (by simp) rfl) _⟩
  have R0 : ((((w.alloc (.cells #[.slice a1 s1.length c1, .slice a2 s2.length c2, .slice a3 s3.length c3] 38)).alloc (.cells #[.slice a4 s4.length c4, .slice a5 s5.length c5, .slice a6 s6.length c6] 38)).alloc (.cells #[.bool false, .int .u64 0, .slice none 0 0, .slice none 0 0] 43)).drew).cell? ⟨w.heap.size + 1 + 1, 0, none⟩ = some (.bool false) := cell_top (by simp) rfl
  have HR := hide R0
  clear R0
  go_enter Try.func18, Try.ntmps18
  go_wp2_with fail
  go_region_held3 (fun w' => w'.cell? ⟨w.heap.size, 0, none⟩ = some (.slice a1 s1.length c1) ∧ w'.cell? ⟨w.heap.size, 1, none⟩ = some (.slice a2 s2.length c2) ∧ w'.cell? ⟨w.heap.size, 2, none⟩ = some (.slice a3 s3.length c3) ∧
      w'.cell? ⟨w.heap.size + 1, 0, none⟩ = some (.slice a4 s4.length c4) ∧ w'.cell? ⟨w.heap.size + 1, 1, none⟩ = some (.slice a5 s5.length c5) ∧ w'.cell? ⟨w.heap.size + 1, 2, none⟩ = some (.slice a6 s6.length c6))
    (first | go_keep | assumption)
    (first
      | (go_at_call_of 27 (Value.slice a1 s1.length c1); refine (clone_any a1 c1 s1 _ (h1.below B0) e1 n1).mono ?_; rintro e w1 ⟨v1, rfl, o1, b1⟩; have B1 := below_chain B0 b1; have S1 := S0.keep b1)
      | (go_at_call_of 27 (Value.slice a2 s2.length c2); refine (clone_any a2 c2 s2 _ (h2.below B1) e2 n2).mono ?_; rintro e w2 ⟨v2, rfl, o2, b2⟩; have B2 := below_chain B1 b2; have S2 := S1.keep b2)
      | (go_at_call_of 28 (Value.slice a3 s3.length c3); refine (lostSet_any a3 c3 s3 _ (h3.below B2) z3 n3).mono ?_; rintro e w3 ⟨rfl, o3, b3⟩; have B3 := below_chain B2 b3; have S3 := S2.keep b3)
      | (go_at_call_of 27 (Value.slice a4 s4.length c4); refine (clone_any a4 c4 s4 _ (h4.below B3) e4 n4).mono ?_; rintro e w4 ⟨v4, rfl, o4, b4⟩; have B4 := below_chain B3 b4; have S4 := S3.keep b4)
      | (go_at_call_of 27 (Value.slice a5 s5.length c5); refine (clone_any a5 c5 s5 _ (h5.below B4) e5 n5).mono ?_; rintro e w5 ⟨v5, rfl, o5, b5⟩; have B5 := below_chain B4 b5; have S5 := S4.keep b5)
      | (go_at_call_of 28 (Value.slice a6 s6.length c6); refine (lostSet_any a6 c6 s6 _ (h6.below B5) z6 n6).mono ?_; rintro e w6 ⟨rfl, o6, b6⟩; have B6 := below_chain B5 b6; have S6 := S5.keep b6)
      | (go_at_call 29; refine (cloneNil_any _).mono ?_; rintro e w7 ⟨rfl, rfl⟩)
      | (go_at_call 26; refine (newFD_of B0 o1 b1 o2 b2 o3 b3 o4 b4 o5 b5 o6 b6).mono ?_; rintro e w8 ⟨f, ra, rr, rfl, hfd, b8⟩; have S8 := S6.keep b8; have r8 := cell_keep b8 (cell_keep b6 (cell_keep b5 (cell_keep b4 (cell_keep b3 (cell_keep b2 (cell_keep b1 HR.out)))))); have B8 := below_chain B6 b8))
  have FIN := hide hfd
  clear hfd
  go_wp2
  refine wp_loop_rounds 1 ?_
  rw [rounds_succ]
  go_wp2
  go_ret
  exact ⟨f, ra, rr, rfl, FIN.out, B8⟩

end Go.Proofs.Qxb6615949a
