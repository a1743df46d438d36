import Derived.Test.Qxb6616044aFmtO
namespace Go.Proofs.Qxb6616044aFmt
open Go.RowKit Go.Extern.Stop Go.Stop Go.Extern
set_option linter.unusedSimpArgs false

set_option maxRecDepth 1000000 in
set_option maxHeartbeats 8000000 in
theorem T18 {u6 u7 u8 u9 u10 u11 u12 u13 u14 u15 u21 u22 u24 u25 u26 u27 u28 u29 u30 u31 u32 u33 u34 u35 u36 u37 u38 u39 u40 u41 u42 u43 u44 u45 u46 u47 u48 u49 u50 u51 u52 u53 u54 u55 u56 u57 u58 u59 u60 u61 u62 u63 u64 u65 u66 u67 u68 u69 u70 u71 u72 u73 u74 u75 u76 u77 u78 u79 u80 u81 u82 u83 u84 u85 u86 u87 u88 u89 u90 u91 u92 u93 u94 u95 u96 u97 u98 u99 u100 u101 u102 u103 u104 u105 u106 u107 u108 u109 u110 u111 u112 u113 u114 u115 u116 u117 u118 u119 u120 u121 u122 u123 u124 u125 u126 u127 u128 u129 u130 u131 u132 u133 u134 u135 u136 u137 u138 u139 u140 u141 u142 u143 u144 u145 u146 u147 u148 u149 u150 u151 u152 u153 u154 u155 u156 u157 u158 u159 u160 u161 u162 u163 u164 u165 u166 u167 u168 u169 u170 u171 u172 u173 u174 u175 u176 u177 u178 u179 u180 u181 u182 u183 u184 u185 u186 u187 u188 u189 u190 u191 u192 u193 u194 u195 u196 u197 u198 u199 u200 u201 u202 u203 u204 u205 u206 u207 u208 u209 u210 u211 u212 u213 u214 u215 u216 u217 u218 u219 u220 u221 u222 u223 u224 u225 u226 u227 u228 u229 u230 u231 u232 u233 u234 u235 u236 u237 u238 u239 u240 u241 u242 u243 u244 u245 u246 u247 u248 u249 u250 u251 u252 u253 u254 u255 u256 u257 u258 u259 u260 u261 u262 u263 u264 u265 u266 u267 u268 u269 u270 u271 u272 u273 u274 u275 u276 u277 u278 u279 u280 u281 u282 u283 u284 u285 u286 u287 u288 u289 u290 u291 u292 u293 u294 u295 u296 u297 u298 u299 u300 u301 u302 u303 u304 u305 u306 u307 u308 u309 u310 u311 u312 u313 u314 u315 u316 u317 u318 u319 u320 u321 u322 u323 u324 u325 u326 u327 u328 u329 u330 u331 u332 u333 u334 u335 u336 u337 u338 u339 u340 u341 u342 u343 u344 u345 u346 u347 u348 u349 u350 u351 : Value} {m : Option Nat} {la fa : Option Addr} {lc fc : Nat} {ls : List Int} {fund pc pi : ByteArray} {es : List Ent} {N g1 g2 g3 g4 B r : Nat} {w ws : World} (hb : Below w.heap.size w ws) (hP : Plain es ls N) (hC : Cols4 ws es N N g1 g2 g3 g4) (hI : Ints ws la ls) (hR : Res B ws r fund (accRows es)) (hpc : pc.size ≤ maxLen) (hpi : pi.size ≤ maxLen) :
    Code.wp Tryf.prog (tailOf Tryf.f3 18) (bodyPost Tryf.prog Tryf.f3 fun e w' => e = .returned (.bool true) ∧ Below w.heap.size w w') ⟨#[.string fund, .map m, .slice la N lc, .slice fa N fc, .string pc, .string pi, u6, u7, u8, u9, u10, u11, u12, u13, u14, u15, .int .i64 (N : Nat), .slice (some ⟨g1, 0, none⟩) N N, .slice (some ⟨g2, 0, none⟩) N N, .slice (some ⟨g3, 0, none⟩) N N, .slice (some ⟨g4, 0, none⟩) N N, u21, u22, .pointer (some ⟨r, 0, none⟩), u24, u25, u26, u27, u28, u29, u30, u31, u32, u33, u34, u35, u36, u37, u38, u39, u40, u41, u42, u43, u44, u45, u46, u47, u48, u49, u50, u51, u52, u53, u54, u55, u56, u57, u58, u59, u60, u61, u62, u63, u64, u65, u66, u67, u68, u69, u70, u71, u72, u73, u74, u75, u76, u77, u78, u79, u80, u81, u82, u83, u84, u85, u86, u87, u88, u89, u90, u91, u92, u93, u94, u95, u96, u97, u98, u99, u100, u101, u102, u103, u104, u105, u106, u107, u108, u109, u110, u111, u112, u113, u114, u115, u116, u117, u118, u119, u120, u121, u122, u123, u124, u125, u126, u127, u128, u129, u130, u131, u132, u133, u134, u135, u136, u137, u138, u139, u140, u141, u142, u143, u144, u145, u146, u147, u148, u149, u150, u151, u152, u153, u154, u155, u156, u157, u158, u159, u160, u161, u162, u163, u164, u165, u166, u167, u168, u169, u170, u171, u172, u173, u174, u175, u176, u177, u178, u179, u180, u181, u182, u183, u184, u185, u186, u187, u188, u189, u190, u191, u192, u193, u194, u195, u196, u197, u198, u199, u200, u201, u202, u203, u204, u205, u206, u207, u208, u209, u210, u211, u212, u213, u214, u215, u216, u217, u218, u219, u220, u221, u222, u223, u224, u225, u226, u227, u228, u229, u230, u231, u232, u233, u234, u235, u236, u237, u238, u239, u240, u241, u242, u243, u244, u245, u246, u247, u248, u249, u250, u251, u252, u253, u254, u255, u256, u257, u258, u259, u260, u261, u262, u263, u264, u265, u266, u267, u268, u269, u270, u271, u272, u273, u274, u275, u276, u277, u278, u279, u280, u281, u282, u283, u284, u285, u286, u287, u288, u289, u290, u291, u292, u293, u294, u295, u296, u297, u298, u299, u300, u301, u302, u303, u304, u305, u306, u307, u308, u309, u310, u311, u312, u313, u314, u315, u316, u317, u318, u319, u320, u321, u322, u323, u324, u325, u326, u327, u328, u329, u330, u331, u332, u333, u334, u335, u336, u337, u338, u339, u340, u341, u342, u343, u344, u345, u346, u347, u348, u349, u350, u351], []⟩ ws := by
  have HP := hide hP
  obtain ⟨hn, hl, hsm, hline, hcs, his⟩ := hP
  replace hn := hide hn
  clear hl hline hcs his
  refine wp_tail 18 rfl ?_
  intro K hK
  go_wp2_with fail
  refine wp_tail 19 rfl ?_
  intro K hK
  go_wp2_with fail
  go_loopw [27, 28] (fun k i wr => ∃ j : Nat, j ≤ N ∧ i = .int .i64 j ∧ k = .int .i64 ((accRows (es.take j)).length : Nat) ∧ Below ws.heap.size ws wr) (fun _ i _ => N - (intOf i).toNat)
  case atStart => exact ⟨0, Nat.zero_le _, rfl, rfl, Below.refl _ _⟩
  obtain ⟨j, hj, rfl, rfl, hbr⟩ := hrel
  by_cases hlt : j < N
  · have hje : j < es.length := by have := hn.out; omega
    have hCr := (hC.below hbr)
    have k1 := hCr.c1.cell hlt
    have k2 := hCr.c2.cell hlt
    have k4 := hCr.c4.cell hlt
    have j0 : (0 : Int) ≤ j := by omega
    have j1 : (j : Int) < N := by omega
    have hal : (accRows (es.take j)).length ≤ 1024 := Nat.le_trans (acc_length_le _) (by rw [List.length_take]; omega)
    have hat := acc_take hje
    rcases fst_take hje with ⟨hq, hf⟩ | ⟨hq, y, hf⟩
    · have hak := acc_at hje hf
      rw [hf] at hat
      simp only [Option.isNone_none, if_true] at hat
      simp only [hq] at k4
      have hRr := hR.below hbr
      clear hCr hq hf
      generalize es.getD j Ent.zero = x at *
      go_wp2_with fail
      refine (orderAt_any B r fund (accRows es) wr hRr (accRows (es.take j)).length x hak).mono ?_
      rintro e W1 ⟨rfl, b1⟩
      have B1 := below_chain hbr b1
      have m1 := (b1.cell (cell_lt k1)).trans k1
      have m2 := (b1.cell (cell_lt k2)).trans k2
      have hat := hide hat
      clear k1 k2 k4 hak hRr hbr b1
      go_wp2
      go_roundw
      case rel => exact ⟨j + 1, by omega, by go_num, by rw [hat.out, List.length_append]; go_num, B1⟩
      case measure => simp [intOf]; omega
    · rw [hf] at hat
      simp only [Option.isNone_some, Bool.false_eq_true, if_false] at hat
      have hne : ((fstRow es j : Int) == j) = false := by simp; omega
      have hat := hide hat
      clear hCr hf k1 k2
      generalize fstRow es j = q at *
      go_wp2
      go_roundw
      case rel => exact ⟨j + 1, by omega, by go_num, by rw [hat.out], hbr⟩
      case measure => simp [intOf]; omega
  · go_wp2_with fail
    exact T20 (below_chain hb hbr) HP.out (hC.below hbr) (hI.below hbr) (hR.below hbr) hpc hpi

end Go.Proofs.Qxb6616044aFmt
