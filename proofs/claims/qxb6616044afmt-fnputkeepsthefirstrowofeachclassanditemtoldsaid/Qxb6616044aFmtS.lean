import Derived.Test.Qxb6616044aFmtR
namespace Go.Proofs.Qxb6616044aFmt
open Go.RowKit Go.Extern.Stop Go.Stop Go.Extern
set_option linter.unusedSimpArgs false

set_option maxRecDepth 1000000 in
set_option maxHeartbeats 8000000 in
theorem T7 {u6 u7 u8 u9 u10 u11 u12 u13 u14 u15 u16 u17 u18 u19 u20 u21 u22 u23 u24 u25 u26 u27 u28 u29 u30 u31 u32 u33 u34 u35 u36 u37 u38 u39 u40 u41 u42 u43 u44 u45 u46 u47 u48 u49 u50 u51 u52 u53 u54 u55 u56 u57 u58 u59 u60 u61 u62 u63 u64 u65 u66 u67 u68 u69 u70 u71 u72 u73 u74 u75 u76 u77 u78 u79 u80 u81 u82 u83 u84 u85 u86 u87 u88 u89 u90 u91 u92 u93 u94 u95 u96 u97 u98 u99 u100 u101 u102 u103 u104 u105 u106 u107 u108 u109 u110 u111 u112 u113 u114 u115 u116 u117 u118 u119 u120 u121 u122 u123 u124 u125 u126 u127 u128 u129 u130 u131 u132 u133 u134 u135 u136 u137 u138 u139 u140 u141 u142 u143 u144 u145 u146 u147 u148 u149 u150 u151 u152 u153 u154 u155 u156 u157 u158 u159 u160 u161 u162 u163 u164 u165 u166 u167 u168 u169 u170 u171 u172 u173 u174 u175 u176 u177 u178 u179 u180 u181 u182 u183 u184 u185 u186 u187 u188 u189 u190 u191 u192 u193 u194 u195 u196 u197 u198 u199 u200 u201 u202 u203 u204 u205 u206 u207 u208 u209 u210 u211 u212 u213 u214 u215 u216 u217 u218 u219 u220 u221 u222 u223 u224 u225 u226 u227 u228 u229 u230 u231 u232 u233 u234 u235 u236 u237 u238 u239 u240 u241 u242 u243 u244 u245 u246 u247 u248 u249 u250 u251 u252 u253 u254 u255 u256 u257 u258 u259 u260 u261 u262 u263 u264 u265 u266 u267 u268 u269 u270 u271 u272 u273 u274 u275 u276 u277 u278 u279 u280 u281 u282 u283 u284 u285 u286 u287 u288 u289 u290 u291 u292 u293 u294 u295 u296 u297 u298 u299 u300 u301 u302 u303 u304 u305 u306 u307 u308 u309 u310 u311 u312 u313 u314 u315 u316 u317 u318 u319 u320 u321 u322 u323 u324 u325 u326 u327 u328 u329 u330 u331 u332 u333 u334 u335 u336 u337 u338 u339 u340 u341 u342 u343 u344 u345 u346 u347 u348 u349 u350 u351 : Value} {m : Option Nat} {la fa : Option Addr} {lc fc : Nat} {ls : List Int} {fund pc pi : ByteArray} {N : Nat} {w : World} {H : Type} {F : Interp} {f : ByteArray → Option Int} {rs : List Row} (hls : ls.length = N) (hrn : rs.length = N) (hsm : N ≤ 1024) (hI : Ints w la ls) (hRs : RowsAt w fa rs) (hcl : Cols H w m f) (hF : F.answers w.tape) (hz : ∀ j, j < N → ∀ t ∈ (rs.getD j Row.zero).ss, t.size ≤ 140737488355328) (hfz : fund.size ≤ 140737488355328) (hpc : pc.size ≤ maxLen) (hpi : pi.size ≤ maxLen) :
    Code.wp Tryf.prog (tailOf Tryf.f3 7) (bodyPost Tryf.prog Tryf.f3 fun e w' => e = .returned (.bool true) ∧ Below w.heap.size w w') ⟨#[.string fund, .map m, .slice la N lc, .slice fa N fc, .string pc, .string pi, u6, u7, u8, u9, u10, u11, u12, u13, u14, u15, u16, u17, u18, u19, u20, u21, u22, u23, u24, u25, u26, u27, u28, u29, u30, u31, u32, u33, u34, u35, u36, u37, u38, u39, u40, u41, u42, u43, u44, u45, u46, u47, u48, u49, u50, u51, u52, u53, u54, u55, u56, u57, u58, u59, u60, u61, u62, u63, u64, u65, u66, u67, u68, u69, u70, u71, u72, u73, u74, u75, u76, u77, u78, u79, u80, u81, u82, u83, u84, u85, u86, u87, u88, u89, u90, u91, u92, u93, u94, u95, u96, u97, u98, u99, u100, u101, u102, u103, u104, u105, u106, u107, u108, u109, u110, u111, u112, u113, u114, u115, u116, u117, u118, u119, u120, u121, u122, u123, u124, u125, u126, u127, u128, u129, u130, u131, u132, u133, u134, u135, u136, u137, u138, u139, u140, u141, u142, u143, u144, u145, u146, u147, u148, u149, u150, u151, u152, u153, u154, u155, u156, u157, u158, u159, u160, u161, u162, u163, u164, u165, u166, u167, u168, u169, u170, u171, u172, u173, u174, u175, u176, u177, u178, u179, u180, u181, u182, u183, u184, u185, u186, u187, u188, u189, u190, u191, u192, u193, u194, u195, u196, u197, u198, u199, u200, u201, u202, u203, u204, u205, u206, u207, u208, u209, u210, u211, u212, u213, u214, u215, u216, u217, u218, u219, u220, u221, u222, u223, u224, u225, u226, u227, u228, u229, u230, u231, u232, u233, u234, u235, u236, u237, u238, u239, u240, u241, u242, u243, u244, u245, u246, u247, u248, u249, u250, u251, u252, u253, u254, u255, u256, u257, u258, u259, u260, u261, u262, u263, u264, u265, u266, u267, u268, u269, u270, u271, u272, u273, u274, u275, u276, u277, u278, u279, u280, u281, u282, u283, u284, u285, u286, u287, u288, u289, u290, u291, u292, u293, u294, u295, u296, u297, u298, u299, u300, u301, u302, u303, u304, u305, u306, u307, u308, u309, u310, u311, u312, u313, u314, u315, u316, u317, u318, u319, u320, u321, u322, u323, u324, u325, u326, u327, u328, u329, u330, u331, u332, u333, u334, u335, u336, u337, u338, u339, u340, u341, u342, u343, u344, u345, u346, u347, u348, u349, u350, u351], []⟩ w := by
  obtain ⟨j9, hi9, hz9, hs9, hb9⟩ := info_parts Tryf.info9
  obtain ⟨j3, hi3, hz3, hs3, hb3⟩ := info_parts Tryf.info3
  replace hls := hide hls
  replace hrn := hide hrn
  replace hz := hide hz
  refine wp_tail 7 rfl ?_
  intro K hK
  go_wp2_with fail
  go_loop [15] (fun i => ∃ j : Nat, j ≤ N ∧ i = .int .i64 j ∧ ∀ k, k < j → rowFits f (rs.getD k Row.zero).ss = true) (fun i => N - (intOf i).toNat)
  case atStart => exact ⟨0, Nat.zero_le _, rfl, fun k hk => absurd hk (Nat.not_lt_zero _)⟩
  case round =>
  obtain ⟨j, hj, rfl, hall⟩ := hrel
  by_cases hlt : j < N
  · obtain ⟨bf, off, rfl, kf, hSs⟩ := hRs j (by have := hrn.out; omega)
    have j0 : (0 : Int) ≤ j := by omega
    have j1 : (j : Int) < N := by omega
    replace hall := hide hall
    have nxt : rowFits f (rs.getD j Row.zero).ss = true → ∀ k, k < j + 1 → rowFits f (rs.getD k Row.zero).ss = true := fun h k hk => by
      rcases Nat.lt_succ_iff_lt_or_eq.1 hk with hk | rfl
      · exact hall.out k hk
      · exact h
    replace nxt := hide nxt
    obtain ⟨q, hq⟩ : ∃ q, rowFits f (rs.getD j Row.zero).ss = q := ⟨_, rfl⟩
    replace hq := hide hq
    clear hi9 hz9 hs9 hb9 hi3 hz3 hs3 hb3
    generalize rs.getD j Row.zero = R at *
    go_wp2_with fail
    refine (rowFits_any (H := H) m f R.a _ R.n R.ss rfl w hcl).mono ?_
    rintro e w' ⟨rfl, hw'⟩
    have hw2 := hw'.symm
    subst hw2
    clear hw'
    have hq' : (fits f R.ss ⟨#[99, 108, 97, 115, 115]⟩ && fits f R.ss ⟨#[105, 116, 101, 109]⟩ && fits f R.ss ⟨#[118, 97, 108, 117, 101]⟩) = q := hq.out
    rw [hq']
    clear hq'
    cases q with
    | false =>
      go_wp2
      go_ret
      exact ⟨rfl, Below.refl _ _⟩
    | true =>
      go_wp2
      go_round
      case rel => exact ⟨j + 1, by omega, by go_num, nxt.out hq.out⟩
      case measure => simp [intOf]; omega
  have hjN : j = N := by omega
  rw [hjN] at hall
  replace hall := hide hall
  go_wp2_with fail
  refine wp_tail 8 rfl ?_
  intro K hK
  go_wp2_with fail
  refine wp_tail 9 rfl ?_
  intro K hK
  go_wp2_with (at_make; refine wpList_make_row _ rfl _ _ 26 rfl 9 j9 (.string ⟨#[]⟩) Tryf.underlying26 hi9 hz9 hs9 rfl .i64 .i64 N rfl rfl (by rw [hb9]; omega) (by omega) ?_)
  have al1 : Below w.heap.size w (w.alloc (.cells (madeCells #[(.string ⟨#[]⟩)] N) 9)) := (Below.refl _ _).alloc (Nat.le_refl _) _
  have c1 := fun P => hide (Col.made 9 w (.string ⟨#[]⟩) N P)
  have z1 := hide (alloc_size w (.cells (madeCells #[(.string ⟨#[]⟩)] N) 9))
  generalize w.alloc (.cells (madeCells #[(.string ⟨#[]⟩)] N) 9) = W1 at *
  refine wp_tail 10 rfl ?_
  intro K hK
  go_wp2_with (at_make; refine wpList_make_row _ rfl _ _ 26 rfl 9 j9 (.string ⟨#[]⟩) Tryf.underlying26 hi9 hz9 hs9 rfl .i64 .i64 N rfl rfl (by rw [hb9]; omega) (by omega) ?_)
  have al2 : Below W1.heap.size W1 (W1.alloc (.cells (madeCells #[(.string ⟨#[]⟩)] N) 9)) := (Below.refl _ _).alloc (Nat.le_refl _) _
  have c2 := fun P => hide (Col.made 9 W1 (.string ⟨#[]⟩) N P)
  have z2 := hide (alloc_size W1 (.cells (madeCells #[(.string ⟨#[]⟩)] N) 9))
  generalize W1.alloc (.cells (madeCells #[(.string ⟨#[]⟩)] N) 9) = W2 at *
  refine wp_tail 11 rfl ?_
  intro K hK
  go_wp2_with (at_make; refine wpList_make_row _ rfl _ _ 26 rfl 9 j9 (.string ⟨#[]⟩) Tryf.underlying26 hi9 hz9 hs9 rfl .i64 .i64 N rfl rfl (by rw [hb9]; omega) (by omega) ?_)
  have al3 : Below W2.heap.size W2 (W2.alloc (.cells (madeCells #[(.string ⟨#[]⟩)] N) 9)) := (Below.refl _ _).alloc (Nat.le_refl _) _
  have c3 := fun P => hide (Col.made 9 W2 (.string ⟨#[]⟩) N P)
  have z3 := hide (alloc_size W2 (.cells (madeCells #[(.string ⟨#[]⟩)] N) 9))
  generalize W2.alloc (.cells (madeCells #[(.string ⟨#[]⟩)] N) 9) = W3 at *
  refine wp_tail 12 rfl ?_
  intro K hK
  go_wp2_with (at_make; refine wpList_make_row _ rfl _ _ 23 rfl 3 j3 (.int .i64 0) Tryf.underlying23 hi3 hz3 hs3 rfl .i64 .i64 N rfl rfl (by rw [hb3]; omega) (by omega) ?_)
  have al4 : Below W3.heap.size W3 (W3.alloc (.cells (madeCells #[(.int .i64 0)] N) 3)) := (Below.refl _ _).alloc (Nat.le_refl _) _
  have c4 := fun P => hide (Col.made 3 W3 (.int .i64 0) N P)
  have z4 := hide (alloc_size W3 (.cells (madeCells #[(.int .i64 0)] N) 3))
  generalize W3.alloc (.cells (madeCells #[(.int .i64 0)] N) 3) = W4 at *
  have e1 := z1.out
  have e2 := z2.out
  have e3 := z3.out
  have e4 := z4.out
  have B2 := below_chain al1 al2
  have B3 := below_chain B2 al3
  have B4 := below_chain B3 al4
  refine T13 (H := H) (F := F) (es := entries f rs ls) B4 ⟨by omega, by omega, by omega, by omega⟩ ⟨by omega, by omega, by omega, by omega, by omega, by omega⟩ ⟨by rw [entries_length]; exact hrn.out, hls.out, hsm, ?_, ?_, ?_⟩ ⟨(((c1 _).out.below al2).below al3).below al4, ((c2 _).out.below al3).below al4, (c3 _).out.below al4, (c4 _).out⟩ hI hRs hcl hF hrn.out (fun j hj => entries_at f rs ls (by have := hrn.out; omega)) hall.out hz.out hfz hpc hpi
  · intro j hj
    rw [entries_at f rs ls (by have := hrn.out; omega)]
    rfl
  · intro j hj
    rw [entries_at f rs ls (by have := hrn.out; omega)]
    exact Nat.le_trans (get_size f _ _ (hz.out j hj)) (by unfold maxLen; omega)
  · intro j hj
    rw [entries_at f rs ls (by have := hrn.out; omega)]
    exact Nat.le_trans (get_size f _ _ (hz.out j hj)) (by unfold maxLen; omega)

end Go.Proofs.Qxb6616044aFmt
