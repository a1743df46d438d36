import Derived.Test.Qxb6615949aN
import Derived.Deep.RegionHeld3
namespace Go.Proofs.Qxb6615949a
open Go.RowKit

/-- The chosen liveness of the door f, as the checker meets it. -/
structure Sel (w : World) (b : Bool) (f : Nat) (p m : Nat) (ai al : Option Addr) (ci cl : Nat) (ids live keys : List ByteArray) : Prop where
  hf : w.cell? ⟨f, selOff b, none⟩ = some (.pointer (some ⟨p, 0, none⟩))
  h0 : w.cell? ⟨p, 0, none⟩ = some (.slice ai ids.length ci)
  h2 : w.cell? ⟨p, 2, none⟩ = some (.map (some m))
  h3 : w.cell? ⟨p, 3, none⟩ = some (.slice al live.length cl)
  si : Strs w ai ids
  sl : Strs w al live
  lost : LostAt w m keys

theorem Sel.keep {w w' : World} {b : Bool} {f p m : Nat} {ai al : Option Addr} {ci cl : Nat} {ids live keys : List ByteArray} (h : Sel w b f p m ai al ci cl ids live keys) (hb : Below w.heap.size w w') : Sel w' b f p m ai al ci cl ids live keys :=
  ⟨cell_keep hb h.hf, cell_keep hb h.h0, cell_keep hb h.h2, cell_keep hb h.h3, h.si.below hb, h.sl.below hb, lost_keep hb h.lost⟩
theorem Sel.drewN {w : World} {b : Bool} {f p m : Nat} {ai al : Option Addr} {ci cl : Nat} {ids live keys : List ByteArray} (h : Sel w b f p m ai al ci cl ids live keys) (n : Nat) : Sel (w.drewN n) b f p m ai al ci cl ids live keys :=
  h.keep (below_drewN (Below.refl _ _) n)

theorem without_len (ss : List ByteArray) (x : ByteArray) : (without ss x).length ≤ ss.length := List.length_filter_le _ _

set_option maxHeartbeats 4000000 in
set_option maxRecDepth 100000 in
theorem after_any (b : Bool) (f p m : Nat) (ai al : Option Addr) (ci cl : Nat) (a1 a2 a3 : Option Addr) (c1 c2 c3 : Nat) (s1 s2 s3 keys : List ByteArray) (x y : ByteArray) (w : World) (h : Sel w b f p m ai al ci cl s1 (without (without s2 x) y) keys)
    (h1 : Strs w a1 s1) (h2 : Strs w a2 s2) (h3 : Strs w a3 s3) (n1 : s1.length * 16 ≤ 140737488351232) (n2 : s2.length * 16 ≤ 140737488351232) (n3 : s3.length * 16 ≤ 140737488351232) (z3 : ∀ s ∈ s3, s.size ≤ maxLen) (zx : x.size ≤ maxLen) (zy : y.size ≤ maxLen)
    (hk : ∀ s, s ∈ keys ↔ s ∈ x :: y :: s3) :
    Calls Try.prog 20 #[.pointer (some ⟨f, 0, none⟩), .bool b, .agg #[.slice a1 s1.length c1, .slice a2 s2.length c2, .slice a3 s3.length c3], .string x, .string y] w fun e w' => e = .returned (.bool true) ∧ Below w.heap.size w w' := by
  have B0 : Below w.heap.size w (w.alloc (.cells #[.slice a1 s1.length c1, .slice a2 s2.length c2, .slice a3 s3.length c3] 38)) := (Below.refl _ _).alloc (Nat.le_refl _) _
  have k0 : (w.alloc (.cells #[.slice a1 s1.length c1, .slice a2 s2.length c2, .slice a3 s3.length c3] 38)).cell? ⟨w.heap.size, 0, none⟩ = some (.slice a1 s1.length c1) := cell_top rfl rfl
  have k2 : (w.alloc (.cells #[.slice a1 s1.length c1, .slice a2 s2.length c2, .slice a3 s3.length c3] 38)).cell? ⟨w.heap.size, 2, none⟩ = some (.slice a3 s3.length c3) := cell_top rfl rfl
  have K0 := hide k0
  have K2 := hide k2
  have HK := hide hk
  have w1 := without_len s2 x
  have w2 := without_len (without s2 x) y
  clear k0 k2 hk
  go_enter Try.func20, Try.ntmps20
  go_wp2_with fail
  refine (without_any a2 c2 s2 x _ (h2.below B0) n2).mono ?_
  rintro e W1 ⟨v1, rfl, o1, b1⟩
  obtain ⟨av, cv, rfl⟩ := own_shape o1
  have B1 := below_chain B0 b1
  go_wp2_with fail
  refine (without_any av cv (without s2 x) y _ (Strs.of_own o1).1 (by omega)).mono ?_
  rintro e W2 ⟨v2, rfl, o2, b2⟩
  obtain ⟨av2, cv2, rfl⟩ := own_shape o2
  have B2 := below_chain B1 b2
  have S2 := h.keep B2
  have k0 : W2.cell? ⟨w.heap.size, 0, none⟩ = some (.slice a1 s1.length c1) := cell_keep b2 (cell_keep b1 K0.out)
  have k2 : W2.cell? ⟨w.heap.size, 2, none⟩ = some (.slice a3 s3.length c3) := cell_keep b2 (cell_keep b1 K2.out)
  have u2 := (Strs.of_own o2).1
  clear o1 o2 b1 b2 K0 K2
  go_wp2_with fail
  refine (liveOf_any b f p al _ cl _ S2.hf S2.h3).mono ?_
  rintro e W3 ⟨rfl, rfl⟩
  go_wp2_with fail
  refine (stringsEqual_any al av2 cl cv2 _ _ S2.sl u2 (by omega)).mono ?_
  rintro e W4 ⟨rfl, nn, rfl⟩
  have BW := below_drewN B2 nn
  have SW := S2.drewN nn
  have q0 : (W3.drewN nn).cell? ⟨w.heap.size, 0, none⟩ = some (.slice a1 s1.length c1) := k0
  have q2 : (W3.drewN nn).cell? ⟨w.heap.size, 2, none⟩ = some (.slice a3 s3.length c3) := k2
  go_wp2_with fail
  generalize W3.drewN nn = W at *
  clear S2 k0 k2 B2 u2 B1
  have U1 := h1.below BW
  have U3 := h3.below BW
  go_quiet ((first
    | (go_at_call 37; refine (idsOf_any b f p ai _ ci _ (SW.drewN _).hf (SW.drewN _).h0).mono ?_; rintro e w' ⟨rfl, rfl⟩; exact ⟨rfl, _, rfl⟩)
    | (go_at_call 35; refine (stringsEqual_any ai a1 ci c1 s1 _ (SW.drewN _).si (U1.below (below_drewN (Below.refl _ _) _)) (by omega)).mono ?_; rintro e w' ⟨rfl, n', rfl⟩; exact ⟨rfl, _, by simp; rfl⟩)))
  go_wp2_with (first
    | (go_at_call_of 38 (Value.string x); refine (lostHas_any b f p m x keys _ (SW.drewN _).hf (SW.drewN _).h2 (SW.drewN _).lost zx ((HK.out x).2 (by simp))).mono ?_; rintro e w' ⟨rfl, rfl⟩)
    | (go_at_call_of 38 (Value.string y); refine (lostHas_any b f p m y keys _ (SW.drewN _).hf (SW.drewN _).h2 (SW.drewN _).lost zy ((HK.out y).2 (by simp))).mono ?_; rintro e w' ⟨rfl, rfl⟩))
  go_loopw [12] (fun i w' => ∃ k n : Nat, k ≤ s3.length ∧ i = .int .i64 k ∧ w' = W.drewN n) (fun i _ => s3.length - (intOf i).toNat)
  case atStart => exact ⟨0, _, Nat.zero_le _, rfl, rfl⟩
  obtain ⟨k, n, hk, rfl, rfl⟩ := hrel
  by_cases hlt : k < s3.length
  · obtain ⟨b3, off3, rfl, hc⟩ := U3 k hlt
    go_wp2_with (first | (go_at_call 38; refine (lostHas_any b f p m s3[k] keys _ (SW.drewN _).hf (SW.drewN _).h2 (SW.drewN _).lost (z3 _ (List.getElem_mem _)) ((HK.out _).2 (by simp))).mono ?_; rintro e w' ⟨rfl, rfl⟩))
    go_roundw
    case rel => exact ⟨k + 1, _, by omega, by go_num, rfl⟩
    case measure => simp [intOf]; omega
  have BN := below_drewN BW n
  have SN := SW.drewN n
  have U3N := h3.below BN
  have q2n : (W.drewN n).cell? ⟨w.heap.size, 2, none⟩ = some (.slice a3 s3.length c3) := q2
  go_wp2_with fail
  generalize W.drewN n = V at *
  have SD := SN.keep ((Below.refl V.heap.size V).drew)
  have UD := U3N.below ((Below.refl V.heap.size V).drew)
  have qd : V.drew.cell? ⟨w.heap.size, 2, none⟩ = some (.slice a3 s3.length c3) := q2n
  have BD := BN.drew
  have heq : ((distinct keys : Int) == (distinct (x :: y :: s3) : Int)) = true := by rw [distinct_congr HK.out]; simp
  clear SN U3N q2n BN SW U3 U1 q0 q2 BW
  go_region_held3 (fun w' => w'.cell? ⟨w.heap.size, 2, none⟩ = some (.slice a3 s3.length c3)) (first | go_keep | assumption)
    (first
      | (go_at_call 39; refine (lostLen_any b f p m keys _ SD.hf SD.h2 SD.lost).mono ?_; rintro e w' ⟨rfl, rfl⟩)
      | (go_at_call 40; refine (distinctWith_any a3 c3 s3 x y _ UD n3).mono ?_; rintro e w5 ⟨rfl, b5⟩; have k5 := cell_keep b5 qd; have B5 := below_chain BD b5))
  go_wp2
  go_ret
  exact ⟨rfl, B5⟩

end Go.Proofs.Qxb6615949a
