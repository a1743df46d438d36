import Derived.Test.Qxb6616044aFmtP
namespace Go.Proofs.Qxb6616044aFmt
open Go.RowKit Go.Extern.Stop Go.Stop Go.Extern
set_option linter.unusedSimpArgs false

set_option maxRecDepth 1000000 in
set_option maxHeartbeats 8000000 in
theorem T14 {u6 u7 u8 u9 u10 u11 u12 u13 u14 u15 u21 u22 u23 u24 u25 u26 u27 u28 u29 u30 u31 u32 u33 u34 u35 u36 u37 u38 u39 u40 u41 u42 u43 u44 u45 u46 u47 u48 u49 u50 u51 u52 u53 u54 u55 u56 u57 u58 u59 u60 u61 u62 u63 u64 u65 u66 u67 u68 u69 u70 u71 u72 u73 u74 u75 u76 u77 u78 u79 u80 u81 u82 u83 u84 u85 u86 u87 u88 u89 u90 u91 u92 u93 u94 u95 u96 u97 u98 u99 u100 u101 u102 u103 u104 u105 u106 u107 u108 u109 u110 u111 u112 u113 u114 u115 u116 u117 u118 u119 u120 u121 u122 u123 u124 u125 u126 u127 u128 u129 u130 u131 u132 u133 u134 u135 u136 u137 u138 u139 u140 u141 u142 u143 u144 u145 u146 u147 u148 u149 u150 u151 u152 u153 u154 u155 u156 u157 u158 u159 u160 u161 u162 u163 u164 u165 u166 u167 u168 u169 u170 u171 u172 u173 u174 u175 u176 u177 u178 u179 u180 u181 u182 u183 u184 u185 u186 u187 u188 u189 u190 u191 u192 u193 u194 u195 u196 u197 u198 u199 u200 u201 u202 u203 u204 u205 u206 u207 u208 u209 u210 u211 u212 u213 u214 u215 u216 u217 u218 u219 u220 u221 u222 u223 u224 u225 u226 u227 u228 u229 u230 u231 u232 u233 u234 u235 u236 u237 u238 u239 u240 u241 u242 u243 u244 u245 u246 u247 u248 u249 u250 u251 u252 u253 u254 u255 u256 u257 u258 u259 u260 u261 u262 u263 u264 u265 u266 u267 u268 u269 u270 u271 u272 u273 u274 u275 u276 u277 u278 u279 u280 u281 u282 u283 u284 u285 u286 u287 u288 u289 u290 u291 u292 u293 u294 u295 u296 u297 u298 u299 u300 u301 u302 u303 u304 u305 u306 u307 u308 u309 u310 u311 u312 u313 u314 u315 u316 u317 u318 u319 u320 u321 u322 u323 u324 u325 u326 u327 u328 u329 u330 u331 u332 u333 u334 u335 u336 u337 u338 u339 u340 u341 u342 u343 u344 u345 u346 u347 u348 u349 u350 u351 : Value} {m : Option Nat} {la fa : Option Addr} {lc fc : Nat} {ls : List Int} {fund pc pi : ByteArray} {es : List Ent} {N g1 g2 g3 g4 : Nat} {w ws : World} {H : Type} {F : Interp} {f : ByteArray → Option Int} {rs : List Row} (hb : Below w.heap.size w ws) (hP : Plain es ls N) (hC : Cols4 ws es N N g1 g2 g3 g4) (hI : Ints ws la ls) (hRs : RowsAt ws fa rs) (hcl : Cols H ws m f) (hF : F.answers ws.tape) (hrn : rs.length = N) (hes : ∀ j, j < N → es.getD j Ent.zero = entOf f (rs.getD j Row.zero).ss (ls.getD j 0)) (hfit : ∀ j, j < N → rowFits f (rs.getD j Row.zero).ss = true) (hz : ∀ j, j < N → ∀ t ∈ (rs.getD j Row.zero).ss, t.size ≤ 140737488355328) (hfz : fund.size ≤ 140737488355328) (hpc : pc.size ≤ maxLen) (hpi : pi.size ≤ maxLen) :
    Code.wp Tryf.prog (tailOf Tryf.f3 14) (bodyPost Tryf.prog Tryf.f3 fun e w' => e = .returned (.bool true) ∧ Below w.heap.size w w') ⟨#[.string fund, .map m, .slice la N lc, .slice fa N fc, .string pc, .string pi, u6, u7, u8, u9, u10, u11, u12, u13, u14, u15, .int .i64 (N : Nat), .slice (some ⟨g1, 0, none⟩) N N, .slice (some ⟨g2, 0, none⟩) N N, .slice (some ⟨g3, 0, none⟩) N N, .slice (some ⟨g4, 0, none⟩) N N, u21, u22, u23, u24, u25, u26, u27, u28, u29, u30, u31, u32, u33, u34, u35, u36, u37, u38, u39, u40, u41, u42, u43, u44, u45, u46, u47, u48, u49, u50, u51, u52, u53, u54, u55, u56, u57, u58, u59, u60, u61, u62, u63, u64, u65, u66, u67, u68, u69, u70, u71, u72, u73, u74, u75, u76, u77, u78, u79, u80, u81, u82, u83, u84, u85, u86, u87, u88, u89, u90, u91, u92, u93, u94, u95, u96, u97, u98, u99, u100, u101, u102, u103, u104, u105, u106, u107, u108, u109, u110, u111, u112, u113, u114, u115, u116, u117, u118, u119, u120, u121, u122, u123, u124, u125, u126, u127, u128, u129, u130, u131, u132, u133, u134, u135, u136, u137, u138, u139, u140, u141, u142, u143, u144, u145, u146, u147, u148, u149, u150, u151, u152, u153, u154, u155, u156, u157, u158, u159, u160, u161, u162, u163, u164, u165, u166, u167, u168, u169, u170, u171, u172, u173, u174, u175, u176, u177, u178, u179, u180, u181, u182, u183, u184, u185, u186, u187, u188, u189, u190, u191, u192, u193, u194, u195, u196, u197, u198, u199, u200, u201, u202, u203, u204, u205, u206, u207, u208, u209, u210, u211, u212, u213, u214, u215, u216, u217, u218, u219, u220, u221, u222, u223, u224, u225, u226, u227, u228, u229, u230, u231, u232, u233, u234, u235, u236, u237, u238, u239, u240, u241, u242, u243, u244, u245, u246, u247, u248, u249, u250, u251, u252, u253, u254, u255, u256, u257, u258, u259, u260, u261, u262, u263, u264, u265, u266, u267, u268, u269, u270, u271, u272, u273, u274, u275, u276, u277, u278, u279, u280, u281, u282, u283, u284, u285, u286, u287, u288, u289, u290, u291, u292, u293, u294, u295, u296, u297, u298, u299, u300, u301, u302, u303, u304, u305, u306, u307, u308, u309, u310, u311, u312, u313, u314, u315, u316, u317, u318, u319, u320, u321, u322, u323, u324, u325, u326, u327, u328, u329, u330, u331, u332, u333, u334, u335, u336, u337, u338, u339, u340, u341, u342, u343, u344, u345, u346, u347, u348, u349, u350, u351], []⟩ ws := by
  have HP := hide hP
  obtain ⟨hn, hl, hsm, hline, hcs, his⟩ := hP
  replace hn := hide hn
  replace hl := hide hl
  replace hrn := hide hrn
  replace hes := hide hes
  replace hfit := hide hfit
  replace hz := hide hz
  clear hline hcs his
  refine wp_tail 14 rfl ?_
  intro K hK
  go_wp2_with fail
  refine (newResult_any ws fund ws (Below.refl _ _)).mono ?_
  rintro e W1 ⟨r, rfl, R1, B1⟩
  go_wp2_with fail
  refine wp_tail 15 rfl ?_
  intro K hK
  go_wp2_with fail
  refine wp_tail 16 rfl ?_
  intro K hK
  go_wp2_with fail
  go_loopw [24, 25] (fun k i wr => ∃ j : Nat, j ≤ N ∧ i = .int .i64 j ∧ k = .int .i64 ((accRows (es.take j)).length : Nat) ∧ Res ws.heap.size wr r fund (accRows (es.take j)) ∧ Below ws.heap.size ws wr) (fun _ i _ => N - (intOf i).toNat)
  case atStart => exact ⟨0, Nat.zero_le _, rfl, rfl, R1, B1⟩
  clear R1 B1
  obtain ⟨j, hj, rfl, rfl, hRr, hbr⟩ := hrel
  by_cases hlt : j < N
  · have hje : j < es.length := by have := hn.out; omega
    have k4 := hC.c4.cell hlt
    obtain ⟨bl, ol, rfl, kl0⟩ := hI j (by have := hl.out; omega)
    obtain ⟨bf, off, rfl, kf0, hSs⟩ := hRs j (by have := hrn.out; omega)
    have kl := (hbr.cell (cell_lt kl0)).trans kl0
    have kf := (hbr.cell (cell_lt kf0)).trans kf0
    have he := hes.out j hlt
    have hft := hfit.out j hlt
    have hzj := hide (hz.out j hlt)
    have j0 : (0 : Int) ≤ j := by omega
    have j1 : (j : Int) < N := by omega
    have hal : (accRows (es.take j)).length ≤ 1024 := Nat.le_trans (acc_length_le _) (by rw [List.length_take]; omega)
    have hat := acc_take hje
    have RD : Hid (Res ws.heap.size wr.drew r fund (accRows (es.take j))) := hRr.below (Below.refl _ _).drew
    have BD : Below ws.heap.size ws wr.drew := hbr.drew
    replace hSs := hide hSs
    replace hft := hide hft
    have hcl' := hide hcl
    have hF' := hide hF
    have HP2 := hide HP
    rcases fst_take hje with ⟨hq, hf⟩ | ⟨hq, y, hf⟩
    · rw [hf] at hat
      simp only [Option.isNone_none, if_true] at hat
      simp only [hq] at k4
      have hfi : findE (accRows (es.take j)) (colGet f (rs.getD j Row.zero).ss sClass) (colGet f (rs.getD j Row.zero).ss sItem) = none := by
        rw [findE_acc]
        rw [he] at hf
        exact hf
      rw [he] at hat
      replace hat := hide hat
      replace hfi := hide hfi
      clear hRr hbr hq hf he hes hfit hz hcl hF HP2
      generalize rs.getD j Row.zero = R at *
      go_wp2_with fail
      go_region_held3 (fun w' => w'.cell? ⟨bl, ol + j, none⟩ = some (.int .i64 (ls.getD j 0)) ∧ w'.cell? ⟨bf, off + j, none⟩ = some (.slice R.a R.ss.length R.n)) (first | exact ⟨kl, kf⟩ | exact ⟨ml, mf⟩)
          (first
            | (go_at_call 9; refine (zput_new (H := H) ws r fund (accRows (es.take j)) (ls.getD j 0) m f R.a R.n R.ss wr.drew BD RD.out hcl'.out hSs.out hft.out hzj.out hfz (by omega) hfi.out).mono ?_; rintro e W2 ⟨rfl, R2, B2⟩; have ml := (B2.cell (cell_lt (a := ⟨bl, ol + j, none⟩) (w := ws) kl0)).trans kl0; have mf := (B2.cell (cell_lt (a := ⟨bf, off + j, none⟩) (w := ws) kf0)).trans kf0; have m4 := (B2.cell (cell_lt (a := ⟨g4, j, none⟩) (w := ws) k4)).trans k4))
      have m4' : W2.cell? ⟨g4, j, none⟩ = some (.int .i64 j) := m4
      replace R2 := hide R2
      clear ml mf m4 kl kf kl0 kf0 k4 BD RD
      go_wp2
      go_roundw
      case rel => exact ⟨j + 1, by omega, by go_num, by rw [hat.out, List.length_append]; go_num, by rw [hat.out]; exact R2.out, B2⟩
      case measure => simp [intOf]; omega
    · rw [hf] at hat
      simp only [Option.isNone_some, Bool.false_eq_true, if_false] at hat
      have hne : ((fstRow es j : Int) == j) = false := by simp; omega
      have hne2 : ((fstRow es j : Int) != j) = true := by simp; omega
      have hfi : findE (accRows (es.take j)) (colGet f (rs.getD j Row.zero).ss sClass) (colGet f (rs.getD j Row.zero).ss sItem) = some y := by
        rw [findE_acc]
        rw [he] at hf
        exact hf
      replace hat := hide hat
      replace hfi := hide hfi
      clear hRr hbr hf he hes hfit hz hcl hF HP2
      generalize rs.getD j Row.zero = R at *
      generalize fstRow es j = q at *
      go_wp2_with fail
      go_region_held3 (fun w' => w'.cell? ⟨bl, ol + j, none⟩ = some (.int .i64 (ls.getD j 0)) ∧ w'.cell? ⟨bf, off + j, none⟩ = some (.slice R.a R.ss.length R.n)) (first | exact ⟨kl, kf⟩ | exact ⟨ml, mf⟩)
          (first
            | (go_at_call 9; refine (zput_old (H := H) F ws r fund (accRows (es.take j)) (ls.getD j 0) m f R.a R.n R.ss wr.drew BD RD.out hcl'.out hSs.out hft.out hzj.out hfz y hF'.out hfi.out).mono ?_; rintro e W2 ⟨⟨pe, rfl⟩, R2, B2⟩; have ml := (B2.cell (cell_lt (a := ⟨bl, ol + j, none⟩) (w := ws) kl0)).trans kl0; have mf := (B2.cell (cell_lt (a := ⟨bf, off + j, none⟩) (w := ws) kf0)).trans kf0; have m4 := (B2.cell (cell_lt (a := ⟨g4, j, none⟩) (w := ws) k4)).trans k4))
      have m4' : W2.cell? ⟨g4, j, none⟩ = some (.int .i64 q) := m4
      replace R2 := hide R2
      clear ml mf m4 kl kf kl0 kf0 k4 BD RD
      go_wp2
      go_roundw
      case rel => exact ⟨j + 1, by omega, by go_num, by rw [hat.out], by rw [hat.out]; exact R2.out, B2⟩
      case measure => simp [intOf]; omega
  · obtain rfl : j = N := by omega
    rw [List.take_of_length_le (by rw [hn.out]; exact Nat.le_refl _)] at hRr ⊢
    go_wp2_with fail
    refine wp_tail 17 rfl ?_
    intro K hK
    go_wp2_with fail
    refine (orderLen_any _ r fund (accRows es) wr hRr).mono ?_
    rintro e w7 ⟨rfl, hw7⟩
    have hw8 := hw7.symm
    subst hw8
    clear hw7
    go_wp2_with fail
    exact T18 (below_chain hb hbr) HP.out (hC.below hbr) (hI.below hbr) hRr hpc hpi

end Go.Proofs.Qxb6616044aFmt
