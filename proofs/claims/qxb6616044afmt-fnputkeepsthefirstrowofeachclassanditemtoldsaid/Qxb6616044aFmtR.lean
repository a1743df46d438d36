import Derived.Test.Qxb6616044aFmtQ
namespace Go.Proofs.Qxb6616044aFmt
open Go.RowKit Go.Extern.Stop Go.Stop Go.Extern
set_option linter.unusedSimpArgs false

theorem Col.heap {t : TypeId} {w w' : World} {g N i : Nat} {P : Nat → Value} (h : Col t w g N i P) (e : w'.heap = w.heap) : Col t w' g N i P := by
  obtain ⟨arr, h1, h2, h3⟩ := h
  exact ⟨arr, by rw [e]; exact h1, h2, h3⟩

set_option maxRecDepth 1000000 in
set_option maxHeartbeats 8000000 in
theorem T13 {u6 u7 u8 u9 u10 u11 u12 u13 u14 u15 u21 u22 u23 u24 u25 u26 u27 u28 u29 u30 u31 u32 u33 u34 u35 u36 u37 u38 u39 u40 u41 u42 u43 u44 u45 u46 u47 u48 u49 u50 u51 u52 u53 u54 u55 u56 u57 u58 u59 u60 u61 u62 u63 u64 u65 u66 u67 u68 u69 u70 u71 u72 u73 u74 u75 u76 u77 u78 u79 u80 u81 u82 u83 u84 u85 u86 u87 u88 u89 u90 u91 u92 u93 u94 u95 u96 u97 u98 u99 u100 u101 u102 u103 u104 u105 u106 u107 u108 u109 u110 u111 u112 u113 u114 u115 u116 u117 u118 u119 u120 u121 u122 u123 u124 u125 u126 u127 u128 u129 u130 u131 u132 u133 u134 u135 u136 u137 u138 u139 u140 u141 u142 u143 u144 u145 u146 u147 u148 u149 u150 u151 u152 u153 u154 u155 u156 u157 u158 u159 u160 u161 u162 u163 u164 u165 u166 u167 u168 u169 u170 u171 u172 u173 u174 u175 u176 u177 u178 u179 u180 u181 u182 u183 u184 u185 u186 u187 u188 u189 u190 u191 u192 u193 u194 u195 u196 u197 u198 u199 u200 u201 u202 u203 u204 u205 u206 u207 u208 u209 u210 u211 u212 u213 u214 u215 u216 u217 u218 u219 u220 u221 u222 u223 u224 u225 u226 u227 u228 u229 u230 u231 u232 u233 u234 u235 u236 u237 u238 u239 u240 u241 u242 u243 u244 u245 u246 u247 u248 u249 u250 u251 u252 u253 u254 u255 u256 u257 u258 u259 u260 u261 u262 u263 u264 u265 u266 u267 u268 u269 u270 u271 u272 u273 u274 u275 u276 u277 u278 u279 u280 u281 u282 u283 u284 u285 u286 u287 u288 u289 u290 u291 u292 u293 u294 u295 u296 u297 u298 u299 u300 u301 u302 u303 u304 u305 u306 u307 u308 u309 u310 u311 u312 u313 u314 u315 u316 u317 u318 u319 u320 u321 u322 u323 u324 u325 u326 u327 u328 u329 u330 u331 u332 u333 u334 u335 u336 u337 u338 u339 u340 u341 u342 u343 u344 u345 u346 u347 u348 u349 u350 u351 : Value} {m : Option Nat} {la fa : Option Addr} {lc fc : Nat} {ls : List Int} {fund pc pi : ByteArray} {es : List Ent} {N g1 g2 g3 g4 : Nat} {w ws : World} {H : Type} {F : Interp} {f : ByteArray → Option Int} {rs : List Row} (hb : Below w.heap.size w ws) (hg : w.heap.size ≤ g1 ∧ w.heap.size ≤ g2 ∧ w.heap.size ≤ g3 ∧ w.heap.size ≤ g4) (hd : g1 ≠ g2 ∧ g1 ≠ g3 ∧ g1 ≠ g4 ∧ g2 ≠ g3 ∧ g2 ≠ g4 ∧ g3 ≠ g4) (hP : Plain es ls N) (hC : Cols4 ws es N 0 g1 g2 g3 g4) (hI : Ints w la ls) (hRs : RowsAt w fa rs) (hcl : Cols H w m f) (hF : F.answers w.tape) (hrn : rs.length = N) (hes : ∀ j, j < N → es.getD j Ent.zero = entOf f (rs.getD j Row.zero).ss (ls.getD j 0)) (hfit : ∀ j, j < N → rowFits f (rs.getD j Row.zero).ss = true) (hz : ∀ j, j < N → ∀ t ∈ (rs.getD j Row.zero).ss, t.size ≤ 140737488355328) (hfz : fund.size ≤ 140737488355328) (hpc : pc.size ≤ maxLen) (hpi : pi.size ≤ maxLen) :
    Code.wp Tryf.prog (tailOf Tryf.f3 13) (bodyPost Tryf.prog Tryf.f3 fun e w' => e = .returned (.bool true) ∧ Below w.heap.size w w') ⟨#[.string fund, .map m, .slice la N lc, .slice fa N fc, .string pc, .string pi, u6, u7, u8, u9, u10, u11, u12, u13, u14, u15, .int .i64 (N : Nat), .slice (some ⟨g1, 0, none⟩) N N, .slice (some ⟨g2, 0, none⟩) N N, .slice (some ⟨g3, 0, none⟩) N N, .slice (some ⟨g4, 0, none⟩) N N, u21, u22, u23, u24, u25, u26, u27, u28, u29, u30, u31, u32, u33, u34, u35, u36, u37, u38, u39, u40, u41, u42, u43, u44, u45, u46, u47, u48, u49, u50, u51, u52, u53, u54, u55, u56, u57, u58, u59, u60, u61, u62, u63, u64, u65, u66, u67, u68, u69, u70, u71, u72, u73, u74, u75, u76, u77, u78, u79, u80, u81, u82, u83, u84, u85, u86, u87, u88, u89, u90, u91, u92, u93, u94, u95, u96, u97, u98, u99, u100, u101, u102, u103, u104, u105, u106, u107, u108, u109, u110, u111, u112, u113, u114, u115, u116, u117, u118, u119, u120, u121, u122, u123, u124, u125, u126, u127, u128, u129, u130, u131, u132, u133, u134, u135, u136, u137, u138, u139, u140, u141, u142, u143, u144, u145, u146, u147, u148, u149, u150, u151, u152, u153, u154, u155, u156, u157, u158, u159, u160, u161, u162, u163, u164, u165, u166, u167, u168, u169, u170, u171, u172, u173, u174, u175, u176, u177, u178, u179, u180, u181, u182, u183, u184, u185, u186, u187, u188, u189, u190, u191, u192, u193, u194, u195, u196, u197, u198, u199, u200, u201, u202, u203, u204, u205, u206, u207, u208, u209, u210, u211, u212, u213, u214, u215, u216, u217, u218, u219, u220, u221, u222, u223, u224, u225, u226, u227, u228, u229, u230, u231, u232, u233, u234, u235, u236, u237, u238, u239, u240, u241, u242, u243, u244, u245, u246, u247, u248, u249, u250, u251, u252, u253, u254, u255, u256, u257, u258, u259, u260, u261, u262, u263, u264, u265, u266, u267, u268, u269, u270, u271, u272, u273, u274, u275, u276, u277, u278, u279, u280, u281, u282, u283, u284, u285, u286, u287, u288, u289, u290, u291, u292, u293, u294, u295, u296, u297, u298, u299, u300, u301, u302, u303, u304, u305, u306, u307, u308, u309, u310, u311, u312, u313, u314, u315, u316, u317, u318, u319, u320, u321, u322, u323, u324, u325, u326, u327, u328, u329, u330, u331, u332, u333, u334, u335, u336, u337, u338, u339, u340, u341, u342, u343, u344, u345, u346, u347, u348, u349, u350, u351], []⟩ ws := by
  have HP := hide hP
  obtain ⟨hn, hl, hsm, hline, hcs, his⟩ := hP
  obtain ⟨hg1, hg2, hg3, hg4⟩ := hg
  obtain ⟨d12, d13, d14, d23, d24, d34⟩ := hd
  replace hn := hide hn
  replace hrn := hide hrn
  replace hes := hide hes
  replace hfit := hide hfit
  replace hz := hide hz
  clear hline hcs his hl
  refine wp_tail 13 rfl ?_
  intro K hK
  go_wp2_with fail
  go_loopw [21] (fun i wr => ∃ i0 : Nat, i0 ≤ N ∧ i = .int .i64 i0 ∧ Cols4 wr es N i0 g1 g2 g3 g4 ∧ Below w.heap.size w wr) (fun i _ => N - (intOf i).toNat)
  case atStart => exact ⟨0, Nat.zero_le _, rfl, hC, hb⟩
  clear hC hb
  obtain ⟨i0, hi0, rfl, hCr, B0⟩ := hrel
  by_cases hlt : i0 < N
  · have hje : i0 < es.length := by have := hn.out; omega
    obtain ⟨bf, off, rfl, kf0, hSs⟩ := hRs i0 (by have := hrn.out; omega)
    have he := hide (hes.out i0 hlt)
    have hft := hfit.out i0 hlt
    have hfc := hide hes
    simp only [rowFits, Bool.and_eq_true] at hft
    obtain ⟨⟨ft1, ft2⟩, ft3⟩ := hft
    have ft1 := hide ft1
    have ft2 := hide ft2
    have ft3 := hide ft3
    replace hSs := hide hSs
    have hcl' := hide hcl
    obtain ⟨C1, C2, C3, C4⟩ := hCr
    replace C1 := hide C1
    replace C2 := hide C2
    replace C3 := hide C3
    replace C4 := hide C4
    have hcas := hide (fst_cases hje)
    have j0 : (0 : Int) ≤ i0 := by omega
    have j1 : (i0 : Int) < N := by omega
    clear hRs hes hfit hz hcl hF hfc HP
    generalize rs.getD i0 Row.zero = R at *
    have kf := (B0.cell (cell_lt kf0)).trans kf0
    obtain ⟨v1, o1⟩ := C1.out.old hlt
    have fz1 := C1.out.free i0
    go_wp2_with fail
    refine (get_any (H := H) m f _ R.a R.n R.ss wr (hcl'.out.below B0) (by decide) (hSs.out.below B0) ft1.out).mono ?_
    rintro e w' ⟨rfl, hw'⟩
    have hw2 := hw'.symm
    subst hw2
    clear hw'
    clear kf
    go_upto_region 30 with fail
    have t1 := Touch.setCell (S := fun k => k = g1) wr ⟨g1, i0, none⟩ (.string (colGet f R.ss sClass)) rfl
    have B1 : Below w.heap.size w (wr.setCell ⟨g1, i0, none⟩ (.string (colGet f R.ss sClass))) := B0.setCell hg1 _
    replace C1 := hide (C1.out.store hlt (v := (.string (colGet f R.ss sClass))) (by show Value.string _ = _; rw [he.out]; rfl))
    replace C2 := hide (C2.out.keep t1 (by omega))
    replace C3 := hide (C3.out.keep t1 (by omega))
    replace C4 := hide (C4.out.keep t1 (by omega))
    clear B0 o1 fz1
    generalize wr.setCell ⟨g1, i0, none⟩ (.string (colGet f R.ss sClass)) = W1 at *
    replace kf := (B1.cell (cell_lt kf0)).trans kf0
    obtain ⟨v2, o2⟩ := C2.out.old hlt
    have fz2 := C2.out.free i0
    go_wp2_with fail
    refine (get_any (H := H) m f _ R.a R.n R.ss W1 (hcl'.out.below B1) (by decide) (hSs.out.below B1) ft2.out).mono ?_
    rintro e w' ⟨rfl, hw'⟩
    have hw2 := hw'.symm
    subst hw2
    clear hw'
    clear kf
    go_upto_region 31 with fail
    have t2 := Touch.setCell (S := fun k => k = g2) W1 ⟨g2, i0, none⟩ (.string (colGet f R.ss sItem)) rfl
    have B2 : Below w.heap.size w (W1.setCell ⟨g2, i0, none⟩ (.string (colGet f R.ss sItem))) := B1.setCell hg2 _
    replace C2 := hide (C2.out.store hlt (v := (.string (colGet f R.ss sItem))) (by show Value.string _ = _; rw [he.out]; rfl))
    replace C1 := hide (C1.out.keep t2 (by omega))
    replace C3 := hide (C3.out.keep t2 (by omega))
    replace C4 := hide (C4.out.keep t2 (by omega))
    clear B1 o2 fz2
    generalize W1.setCell ⟨g2, i0, none⟩ (.string (colGet f R.ss sItem)) = W2 at *
    replace kf := (B2.cell (cell_lt kf0)).trans kf0
    obtain ⟨v3, o3⟩ := C3.out.old hlt
    have fz3 := C3.out.free i0
    go_wp2_with fail
    refine (get_any (H := H) m f _ R.a R.n R.ss W2 (hcl'.out.below B2) (by decide) (hSs.out.below B2) ft3.out).mono ?_
    rintro e w' ⟨rfl, hw'⟩
    have hw2 := hw'.symm
    subst hw2
    clear hw'
    clear kf
    go_upto_region 32 with fail
    have t3 := Touch.setCell (S := fun k => k = g3) W2 ⟨g3, i0, none⟩ (.string (colGet f R.ss sValue)) rfl
    have B3 : Below w.heap.size w (W2.setCell ⟨g3, i0, none⟩ (.string (colGet f R.ss sValue))) := B2.setCell hg3 _
    replace C3 := hide (C3.out.store hlt (v := (.string (colGet f R.ss sValue))) (by show Value.string _ = _; rw [he.out]; rfl))
    replace C1 := hide (C1.out.keep t3 (by omega))
    replace C2 := hide (C2.out.keep t3 (by omega))
    replace C4 := hide (C4.out.keep t3 (by omega))
    clear B2 o3 fz3
    generalize W2.setCell ⟨g3, i0, none⟩ (.string (colGet f R.ss sValue)) = W3 at *
    obtain ⟨v4, o4⟩ := C4.out.old hlt
    have fz4 := C4.out.free i0
    go_upto_block 6 with fail
    have t4 := Touch.setCell (S := fun k => k = g4) W3 ⟨g4, i0, none⟩ (.int .i64 (i0 : Nat)) rfl
    have B4 : Below w.heap.size w (W3.setCell ⟨g4, i0, none⟩ (.int .i64 (i0 : Nat))) := B3.setCell hg4 _
    replace C1 := hide (C1.out.keep t4 (by omega))
    replace C2 := hide (C2.out.keep t4 (by omega))
    replace C3 := hide (C3.out.keep t4 (by omega))
    rcases hcas.out with ⟨hq, hno⟩ | ⟨hq, hhit, hno⟩
    · have D4 := hide (C4.out.store hlt (v := .int .i64 (i0 : Nat)) (by show Value.int _ _ = _; rw [hq]))
      replace hno := hide hno
      clear B3 t4 o4 fz4 C4 t1 t2 t3 he hcas hSs hcl' ft1 ft2 ft3 kf0 hq
      generalize W3.setCell ⟨g4, i0, none⟩ (.int .i64 (i0 : Nat)) = W4 at *
      go_wp2_with fail
      go_loopw [22] (fun jv wx => ∃ j : Nat, j ≤ i0 ∧ jv = .int .i64 j ∧ wx.heap = W4.heap ∧ Below w.heap.size w wx) (fun jv _ => i0 - (intOf jv).toNat)
      case atStart => exact ⟨0, Nat.zero_le _, rfl, rfl, B4⟩
      clear B4
      obtain ⟨j, hj, rfl, hh, hbx⟩ := hrel
      by_cases hlt2 : j < i0
      · have a1 : wr.cell? ⟨g1, j, none⟩ = some (.string (es.getD j Ent.zero).c) := (C1.out.heap hh).cell (by omega)
        have a2 : wr.cell? ⟨g1, i0, none⟩ = some (.string (es.getD i0 Ent.zero).c) := (C1.out.heap hh).cell (by omega)
        have a3 : wr.cell? ⟨g2, j, none⟩ = some (.string (es.getD j Ent.zero).i) := (C2.out.heap hh).cell (by omega)
        have a4 : wr.cell? ⟨g2, i0, none⟩ = some (.string (es.getD i0 Ent.zero).i) := (C2.out.heap hh).cell (by omega)
        have hx : ¬ ((es.getD j Ent.zero).c = (es.getD i0 Ent.zero).c ∧ (es.getD j Ent.zero).i = (es.getD i0 Ent.zero).i) := hno.out j hlt2
        have i0' : (0 : Int) ≤ j := by omega
        have i1' : (j : Int) < N := by omega
        generalize es.getD j Ent.zero = x at a1 a3 hx
        generalize es.getD i0 Ent.zero = y at a2 a4 hx
        by_cases hcc : x.c = y.c
        · have hb1 := beq_t hcc
          have hb2 := beq_f (fun e => hx ⟨hcc, e⟩)
          clear hcc hx
          go_wp2
          go_quiet (fail)
          go_wp2
          go_roundw
          case rel => exact ⟨j + 1, by omega, by go_num, hh, ⟨hbx.os, hbx.tape, hbx.output, hbx.size, hbx.block⟩⟩
          case measure => simp [intOf]; omega
        · have hb1 := beq_f hcc
          clear hcc hx
          go_wp2
          go_quiet (fail)
          go_wp2
          go_roundw
          case rel => exact ⟨j + 1, by omega, by go_num, hh, ⟨hbx.os, hbx.tape, hbx.output, hbx.size, hbx.block⟩⟩
          case measure => simp [intOf]; omega
      · go_wp2
        go_roundw
        case rel => exact ⟨i0 + 1, by omega, by go_num, ⟨C1.out.heap hh, C2.out.heap hh, C3.out.heap hh, D4.out.heap hh⟩, hbx⟩
        case measure => simp [intOf]; omega
    · obtain ⟨k, hk⟩ : ∃ k, fstRow es i0 = k := ⟨_, rfl⟩
      rw [hk] at hq hhit hno
      have D4 := hide (C4.out.other (Nat.le_refl i0) (.int .i64 (i0 : Nat)))
      replace hno := hide hno
      replace hhit := hide hhit
      replace hk := hide hk
      clear B3 t4 o4 fz4 C4 t1 t2 t3 he hcas hSs hcl' ft1 ft2 ft3 kf0
      generalize W3.setCell ⟨g4, i0, none⟩ (.int .i64 (i0 : Nat)) = W4 at *
      go_wp2_with fail
      go_loopw [22] (fun jv wx => ∃ j : Nat, j ≤ k ∧ jv = .int .i64 j ∧ wx.heap = W4.heap ∧ Below w.heap.size w wx) (fun jv _ => i0 - (intOf jv).toNat)
      case atStart => exact ⟨0, Nat.zero_le _, rfl, rfl, B4⟩
      clear B4
      obtain ⟨j, hj, rfl, hh, hbx⟩ := hrel
      by_cases hlt2 : j < k
      · have a1 : wr.cell? ⟨g1, j, none⟩ = some (.string (es.getD j Ent.zero).c) := (C1.out.heap hh).cell (by omega)
        have a2 : wr.cell? ⟨g1, i0, none⟩ = some (.string (es.getD i0 Ent.zero).c) := (C1.out.heap hh).cell (by omega)
        have a3 : wr.cell? ⟨g2, j, none⟩ = some (.string (es.getD j Ent.zero).i) := (C2.out.heap hh).cell (by omega)
        have a4 : wr.cell? ⟨g2, i0, none⟩ = some (.string (es.getD i0 Ent.zero).i) := (C2.out.heap hh).cell (by omega)
        have hx : ¬ ((es.getD j Ent.zero).c = (es.getD i0 Ent.zero).c ∧ (es.getD j Ent.zero).i = (es.getD i0 Ent.zero).i) := hno.out j hlt2
        have i0' : (0 : Int) ≤ j := by omega
        have i1' : (j : Int) < N := by omega
        generalize es.getD j Ent.zero = x at a1 a3 hx
        generalize es.getD i0 Ent.zero = y at a2 a4 hx
        by_cases hcc : x.c = y.c
        · have hb1 := beq_t hcc
          have hb2 := beq_f (fun e => hx ⟨hcc, e⟩)
          clear hcc hx
          go_wp2
          go_quiet (fail)
          go_wp2
          go_roundw
          case rel => exact ⟨j + 1, by omega, by go_num, hh, ⟨hbx.os, hbx.tape, hbx.output, hbx.size, hbx.block⟩⟩
          case measure => simp [intOf]; omega
        · have hb1 := beq_f hcc
          clear hcc hx
          go_wp2
          go_quiet (fail)
          go_wp2
          go_roundw
          case rel => exact ⟨j + 1, by omega, by go_num, hh, ⟨hbx.os, hbx.tape, hbx.output, hbx.size, hbx.block⟩⟩
          case measure => simp [intOf]; omega
      · obtain rfl : j = k := by omega
        have a1 : wr.cell? ⟨g1, j, none⟩ = some (.string (es.getD j Ent.zero).c) := (C1.out.heap hh).cell (by omega)
        have a2 : wr.cell? ⟨g1, i0, none⟩ = some (.string (es.getD i0 Ent.zero).c) := (C1.out.heap hh).cell (by omega)
        have a3 : wr.cell? ⟨g2, j, none⟩ = some (.string (es.getD j Ent.zero).i) := (C2.out.heap hh).cell (by omega)
        have a4 : wr.cell? ⟨g2, i0, none⟩ = some (.string (es.getD i0 Ent.zero).i) := (C2.out.heap hh).cell (by omega)
        have hx : (es.getD j Ent.zero).c = (es.getD i0 Ent.zero).c ∧ (es.getD j Ent.zero).i = (es.getD i0 Ent.zero).i := hhit.out
        obtain ⟨v5, o5⟩ := (D4.out.heap hh).old hlt
        have fz5 := (D4.out.heap hh).free i0
        have i0' : (0 : Int) ≤ j := by omega
        have i1' : (j : Int) < N := by omega
        have hb1 := beq_t hx.1
        have hb2 := beq_t hx.2
        clear hx
        generalize es.getD j Ent.zero = x at a1 a3 hb1 hb2
        generalize es.getD i0 Ent.zero = y at a2 a4 hb1 hb2
        go_wp2
        go_quiet (fail)
        have o6 : (wr.drewN nq).cell? ⟨g4, i0, none⟩ = some v5 := o5
        have fz6 : (wr.drewN nq).frozen? ⟨g4, i0, none⟩ = false := fz5
        have h6 : (wr.drewN nq).heap = W4.heap := hh
        have b6 : Below w.heap.size w (wr.drewN nq) := ⟨hbx.os, hbx.tape, hbx.output, hbx.size, hbx.block⟩
        have t6 := Touch.setCell (S := fun k => k = g4) (wr.drewN nq) ⟨g4, i0, none⟩ (.int .i64 (j : Nat)) rfl
        clear o5 fz5 a1 a2 a3 a4
        go_wp2
        go_roundw
        case rel => exact ⟨i0 + 1, by omega, by go_num, ⟨(C1.out.heap h6).keep t6 (by omega), (C2.out.heap h6).keep t6 (by omega), (C3.out.heap h6).keep t6 (by omega), (D4.out.heap h6).store hlt (by show Value.int _ _ = _; rw [hk.out])⟩, b6.setCell hg4 _⟩
        case measure => simp [intOf]; omega
  · obtain rfl : i0 = N := by omega
    go_wp2_with fail
    exact T14 (H := H) (F := F) B0 HP.out hCr (hI.below B0) (hRs.below B0) (hcl.below B0) (by rw [B0.tape]; exact hF) hrn.out hes.out hfit.out hz.out hfz hpc hpi

end Go.Proofs.Qxb6616044aFmt
