import Derived.Test.Qxb6615949aM
namespace Go.Proofs.Qxb6615949a
open Go.RowKit

theorem ownsRow_cut {w : World} {base e g n cap : Nat} {xs : List Value} (h : w.ownsRow base e 1 (.slice (some ⟨g, 0, none⟩) n cap) n xs) (i : Nat) (hi : i ≤ n) :
    w.ownsRow base e 1 (.slice (some ⟨g, 0, none⟩) i cap) i (xs.take i) := by
  obtain ⟨h1, h2⟩ := h
  rcases h2 with ⟨hv, _⟩ | ⟨g', cap', cur, hv, hg, hh, r1, r2, r3, r4⟩
  · simp at hv
  · simp only [Value.slice.injEq, Option.some.injEq, Addr.mk.injEq, and_true, true_and] at hv
    obtain ⟨rfl, rfl⟩ := hv
    refine ⟨by rw [List.length_take]; omega, .inr ⟨g, cap, cur, rfl, hg, hh, by omega, r2, r3, ?_⟩⟩
    rw [← r4, List.take_take]
    congr 1
    omega

def setL : List Value → Nat → List Value → List Value
  | xs, _, [] => xs
  | xs, o, v :: r => setL (xs.set o v) (o + 1) r

theorem setL_take (vs : List Value) : ∀ (xs : List Value) (o i : Nat), i ≤ o → (setL xs o vs).take i = xs.take i := by
  induction vs with
  | nil => intro xs o i _; rfl
  | cons v r ih =>
    intro xs o i h
    rw [setL, ih _ _ _ (by omega), List.take_set_of_le h]

theorem ownsRow_setCells {base e g n cap : Nat} (vs : List Value) : ∀ (w : World) (xs : List Value) (o : Nat), w.ownsRow base e 1 (.slice (some ⟨g, 0, none⟩) n cap) n xs →
    (w.setCells g o vs).ownsRow base e 1 (.slice (some ⟨g, 0, none⟩) n cap) n (setL xs o vs) ∧ w.grownBy (w.setCells g o vs) (some g) := by
  induction vs with
  | nil => intro w xs o h; exact ⟨h, World.grownBy.refl _ _⟩
  | cons v r ih =>
    intro w xs o h
    obtain ⟨h1, h2⟩ := h.stored o v
    obtain ⟨h3, h4⟩ := ih _ _ (o + 1) h1
    exact ⟨h3, ⟨h4.os.trans h2.os, h4.tape.trans h2.tape, h4.output.trans h2.output, Nat.le_trans h2.size h4.size, fun k hk hne => (h4.block k (Nat.lt_of_lt_of_le hk h2.size) hne).trans (h2.block k hk hne)⟩⟩

/-- What is left when every x is taken out. -/
def without (ss : List ByteArray) (x : ByteArray) : List ByteArray := ss.filter (fun s => !(s.toList == x.toList))

theorem without_of_not_mem {ss : List ByteArray} {x : ByteArray} (h : x ∉ ss) : without ss x = ss := by
  unfold without
  rw [List.filter_eq_self]
  intro s hs
  rw [(toList_beq_false s x).2 (fun e => h (e ▸ hs))]
  rfl

theorem without_snoc_hit (l : List ByteArray) (x : ByteArray) : without (l ++ [x]) x = without l x := by
  simp [without, List.filter_append]
theorem without_snoc_miss (l : List ByteArray) {s x : ByteArray} (h : (s.toList == x.toList) = false) : without (l ++ [s]) x = without l x ++ [s] := by
  simp [without, List.filter_append, h]

/-- The closure 'func(live string) bool { return live == id }' over the box bx. -/
def eqFn (bx : Nat) : Value := .func (.func 58) #[] #[.pointer (some ⟨bx, 0, none⟩)]

def IdxSpec (ss : List ByteArray) (x : ByteArray) (r : Int) : Prop := (r = -1 ∧ x ∉ ss) ∨ ∃ i : Nat, ∃ h : i < ss.length, r = i ∧ ss[i] = x ∧ x ∉ ss.take i

set_option maxHeartbeats 400000 in
theorem indexFunc_any (a : Option Addr) (c bx : Nat) (ss : List ByteArray) (x : ByteArray) (w : World) (hs : Strs w a ss) (hn : ss.length ≤ 9223372036854775807) (hbx : w.cell? ⟨bx, 0, none⟩ = some (.string x)) :
    Calls Try.prog 65 #[.slice a ss.length c, .func (.func 58) #[] #[.pointer (some ⟨bx, 0, none⟩)]] w fun e w' => (∃ r : Int, e = .returned (.int .i64 r) ∧ IdxSpec ss x r) ∧ w' = w := by
  go_enter Try.func65, Try.ntmps65
  go_wp2
  go_loop [8] (fun i => ∃ (k : Nat), k ≤ ss.length ∧ i = .int .i64 k ∧ x ∉ ss.take k) (fun i => ss.length - (intOf i).toNat)
  case atStart => exact ⟨0, Nat.zero_le _, rfl, by simp⟩
  obtain ⟨k, hk, rfl, hno⟩ := hrel
  have HN : Hid (x ∉ ss.take k) := hno
  clear hno
  by_cases hlt : k < ss.length
  · obtain ⟨b, off, rfl, hc⟩ := hs k hlt
    go_wp2
    · have ht : (ss[k].toList == x.toList) = true := by assumption
      go_ret
      exact ⟨⟨_, rfl, .inr ⟨k, hlt, rfl, (toList_beq _ _).1 ht, HN.out⟩⟩, rfl⟩
    · have ht : (ss[k].toList == x.toList) = false := by assumption
      go_round
      case rel => exact ⟨k + 1, by omega, by go_num, by
        rw [take_snoc _ _ hlt, List.mem_append, not_or]
        refine ⟨HN.out, fun h => ?_⟩
        have : x = ss[k] := by simpa using h
        exact (toList_beq_false _ _).1 ht this.symm⟩
      case measure => simp [intOf]; omega
  · go_wp2
    go_ret
    refine ⟨⟨_, rfl, .inl ⟨rfl, ?_⟩⟩, rfl⟩
    have := HN.out
    rwa [List.take_of_length_le (by omega)] at this

end Go.Proofs.Qxb6615949a
