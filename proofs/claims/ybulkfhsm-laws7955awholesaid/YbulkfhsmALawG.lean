/-
  The walk of the law A: the accesses compared.
-/
import Derived.Test.YbulkfhsmALawH
namespace Go.Proofs.Ybulkfhsm.A
open Go.RowKit
attribute [local go_sem ↓] Go.wp_at_zero Go.wp_at_succ

theorem guard45 : Yba.prog.eqGuardType Yba.prog.depth 45 = false := by kernel_rfl

set_option maxRecDepth 100000 in
set_option maxHeartbeats 16000000 in
theorem part_91 {w W : World} {d : Dat} {gh go gt gv gh' go' gt' gv' cv c1 c2 c3 c4 : Nat} {sa gf : Nat} {v oh nh : Value} {nx fs E : Nat → Int} {p : Nat → Nat} {ex : Value} {u0 u1 u2 u3 u4 u5 u6 u8 u9 u10 u11 u12 u18 u19 u20 u21 u22 u23 u28 u30 u31 u32 u33 u34 u35 u36 u37 u38 u39 u41 u42 u43 u44 u45 u46 u47 u48 u49 u50 u51 u52 u53 u54 u55 u56 u57 u58 u59 u60 u61 u62 u63 u64 u65 u66 u67 u68 u69 u70 u71 u72 u73 u74 u75 u76 u77 u78 u79 u80 u81 u82 u83 u84 u85 u86 u87 u88 u89 u90 u91 u92 u93 u94 u95 u96 u97 u98 u99 u100 u101 u102 u103 u104 u105 u106 u107 u108 u109 u110 u111 u112 u113 u114 u115 u116 u117 u118 u119 u120 u121 u122 u123 u124 u125 u126 u127 u128 u129 u130 u131 u132 u133 u134 u135 u136 u137 u138 u139 u140 u141 u142 u143 u144 u145 u146 u147 u148 u149 u150 u151 u152 u153 u154 u155 u156 u157 u158 u159 u160 u161 u162 u163 u164 u165 u166 u167 u168 u169 u170 u171 u172 u173 u174 u175 u176 u177 u178 u179 u180 u181 u182 u183 u184 u185 u186 u187 u188 u189 u190 u191 u192 u193 u194 u195 u196 u197 u198 u199 u200 u201 u202 u203 u204 u205 u206 u207 u208 u209 u210 u211 u212 u213 u214 u215 u216 u217 u218 u219 u220 u221 u222 u223 u224 u225 u226 u227 u228 u229 u230 u231 u232 u233 u234 u235 u236 u237 u238 u239 u240 u241 u242 u243 u244 u245 u246 u247 u248 u249 u250 u251 u252 u253 u254 u255 u256 u257 u258 u259 u260 u261 u262 u263 u264 u265 u266 u267 u268 u269 u270 u271 u272 u273 u274 u275 u276 u277 u278 u279 u280 u281 u282 u283 u284 u285 u286 u287 u288 u289 u290 u291 u292 u293 u294 u295 u296 u297 u298 u299 u300 u301 u302 u303 u304 u305 u306 u307 u308 u309 u310 u311 u312 u313 u314 u315 u316 u317 u318 u319 u320 u321 u322 u323 u324 u325 u326 u327 u328 u329 u330 u331 u332 u333 u334 u335 u336 u337 u338 u339 u340 u341 u342 u343 u344 u345 u346 u347 u348 u349 u350 u351 u352 u353 u354 u355 u356 u357 u358 u359 u360 u361 u362 u363 u364 u365 u366 u367 u368 u369 u370 u371 u372 u373 u374 u375 u376 u377 u378 u379 u380 u381 u382 u383 u384 u385 u386 u387 u388 u389 u390 u391 u392 u393 u394 u395 u396 u397 u398 u399 u400 u401 u402 u403 u404 u405 u406 u407 u408 u409 u410 u411 u412 u413 u414 u415 u416 u417 u418 u419 u420 u421 u422 u423 u424 u425 u426 u427 u428 u429 u430 u431 u432 u433 u434 u435 u436 u437 u438 u439 u440 u441 u442 u443 u444 u445 u446 : Value} (ok : d.Ok) (h : Env w W d gh go gt gv gh' go' gt' gv') (hR : Res W d sa gf v oh nh nx fs E) (hS : Says d nx fs E p) (hE : W.ownsRow 0 45 4 ex (d.cs d.N) (flatK d.acc (d.cs d.N))) :
    Code.wp Yba.prog (piece Yba.f3.body 91) (bodyPost Yba.prog Yba.f3 (Yes w)) ⟨#[u0, u1, u2, u3, u4, u5, u6, .slice (some ⟨gv, 0, none⟩) d.nt cv, u8, u9, u10, u11, u12, .int .i64 (d.nt : Int), .int .i64 (d.objects : Int), .slice (some ⟨gh, 0, none⟩) d.N d.N, .slice (some ⟨go, 0, none⟩) d.N d.N, .slice (some ⟨gt, 0, none⟩) d.N d.N, u18, u19, u20, u21, u22, u23, .slice (some ⟨gh', 0, none⟩) d.N c1, .slice (some ⟨go', 0, none⟩) d.N c2, .slice (some ⟨gt', 0, none⟩) d.N c3, .slice (some ⟨gv', 0, none⟩) d.nt c4, u28, .pointer (some ⟨sa, 0, none⟩), u30, u31, u32, u33, u34, u35, u36, u37, u38, u39, ex, u41, u42, u43, u44, u45, u46, u47, u48, u49, u50, u51, u52, u53, u54, u55, u56, u57, u58, u59, u60, u61, u62, u63, u64, u65, u66, u67, u68, u69, u70, u71, u72, u73, u74, u75, u76, u77, u78, u79, u80, u81, u82, u83, u84, u85, u86, u87, u88, u89, u90, u91, u92, u93, u94, u95, u96, u97, u98, u99, u100, u101, u102, u103, u104, u105, u106, u107, u108, u109, u110, u111, u112, u113, u114, u115, u116, u117, u118, u119, u120, u121, u122, u123, u124, u125, u126, u127, u128, u129, u130, u131, u132, u133, u134, u135, u136, u137, u138, u139, u140, u141, u142, u143, u144, u145, u146, u147, u148, u149, u150, u151, u152, u153, u154, u155, u156, u157, u158, u159, u160, u161, u162, u163, u164, u165, u166, u167, u168, u169, u170, u171, u172, u173, u174, u175, u176, u177, u178, u179, u180, u181, u182, u183, u184, u185, u186, u187, u188, u189, u190, u191, u192, u193, u194, u195, u196, u197, u198, u199, u200, u201, u202, u203, u204, u205, u206, u207, u208, u209, u210, u211, u212, u213, u214, u215, u216, u217, u218, u219, u220, u221, u222, u223, u224, u225, u226, u227, u228, u229, u230, u231, u232, u233, u234, u235, u236, u237, u238, u239, u240, u241, u242, u243, u244, u245, u246, u247, u248, u249, u250, u251, u252, u253, u254, u255, u256, u257, u258, u259, u260, u261, u262, u263, u264, u265, u266, u267, u268, u269, u270, u271, u272, u273, u274, u275, u276, u277, u278, u279, u280, u281, u282, u283, u284, u285, u286, u287, u288, u289, u290, u291, u292, u293, u294, u295, u296, u297, u298, u299, u300, u301, u302, u303, u304, u305, u306, u307, u308, u309, u310, u311, u312, u313, u314, u315, u316, u317, u318, u319, u320, u321, u322, u323, u324, u325, u326, u327, u328, u329, u330, u331, u332, u333, u334, u335, u336, u337, u338, u339, u340, u341, u342, u343, u344, u345, u346, u347, u348, u349, u350, u351, u352, u353, u354, u355, u356, u357, u358, u359, u360, u361, u362, u363, u364, u365, u366, u367, u368, u369, u370, u371, u372, u373, u374, u375, u376, u377, u378, u379, u380, u381, u382, u383, u384, u385, u386, u387, u388, u389, u390, u391, u392, u393, u394, u395, u396, u397, u398, u399, u400, u401, u402, u403, u404, u405, u406, u407, u408, u409, u410, u411, u412, u413, u414, u415, u416, u417, u418, u419, u420, u421, u422, u423, u424, u425, u426, u427, u428, u429, u430, u431, u432, u433, u434, u435, u436, u437, u438, u439, u440, u441, u442, u443, u444, u445, u446], []⟩ W := by
  conv => arg 2; whnf
  have hcm : d.cs d.N ≤ 4096 := by have := cs_le d d.N; have := ok.hN; omega
  obtain ⟨m, em⟩ : ∃ m, m = d.cs d.N := ⟨_, rfl⟩
  have hE' := hE
  have hO' := hR.ops
  have hX' := hR.nxt
  rw [← em] at hcm hE' hO' hX'
  have HSX := hide hS.nxt
  have HE := hide hE
  have EM := hide em
  clear em hE
  have m1 : (m : Int) ≤ 4096 := by omega
  have m0 : (0 : Int) ≤ (m : Int) := by omega
  obtain ⟨xa, xcap, rfl⟩ := slice_form hE'
  obtain ⟨oa, ocap, rfl⟩ := slice_form hO'
  obtain ⟨na, ncap, rfl⟩ := slice_form hX'
  have ca1 : W.cell? ⟨sa, 1, none⟩ = some (.slice oa m ocap) := hR.acc.cell rfl
  have ca2 : W.cell? ⟨sa, 2, none⟩ = some (.slice na m ncap) := hR.acc.cell rfl
  go_upto_block 18 with (fail)
  go_cut [44, 45, 46] from 346 to 391 (fun _ _ _ W' => Same W W')
  case first =>
    go_wp2_with fail
    go_loopw [346] (fun x W' => ∃ i : Nat, x = .int .i64 (i : Int) ∧ i ≤ m ∧ Same W W') (fun x _ => m - (intOf x).toNat)
    case atStart => exact ⟨0, rfl, by omega, Same.refl _⟩
    case round =>
      clear ca1 ca2
      obtain ⟨i, rfl, hi, hSm⟩ := hrel
      have i0 : (0 : Int) ≤ (i : Int) := by omega
      by_cases hlt : i < m
      · have i1 : (i : Int) < (m : Int) := by omega
        have i2 : (i : Int) ≤ 4096 := by omega
        obtain ⟨gx, xc, e, _⟩ := row_form hE' (by omega)
        cases e
        obtain ⟨gq, oc, e, _⟩ := row_form hO' (by omega)
        cases e
        obtain ⟨gn, nc, e, _⟩ := row_form hX' (by omega)
        cases e
        have ca1 : wr.cell? ⟨sa, 1, none⟩ = some (.slice (some ⟨gq, 0, none⟩) m ocap) := (hSm.blk hR.acc).cell rfl
        have x0 : wr.cell? ⟨gx, i * 4, none⟩ = some (.int .i32 (d.ix i : Int)) := by rw [hSm.cell]; exact (cell4 hE' hlt (q := 0) (by omega)).trans rfl
        have x1 : wr.cell? ⟨gx, i * 4 + 1, none⟩ = some (.int .i32 (d.node (d.T (d.ix i)))) := by rw [hSm.cell]; exact (cell4 hE' hlt (q := 1) (by omega)).trans rfl
        have x2 : wr.cell? ⟨gx, i * 4 + 2, none⟩ = some (.int .i32 (d.X (d.ix i))) := by rw [hSm.cell]; exact (cell4 hE' hlt (q := 2) (by omega)).trans rfl
        have x3 : wr.cell? ⟨gx, i * 4 + 3, none⟩ = some (.int .u8 (d.K (d.ix i))) := by rw [hSm.cell]; exact (cell4 hE' hlt (q := 3) (by omega)).trans rfl
        have o0 : wr.cell? ⟨gq, i * 4, none⟩ = some (.int .i32 (d.ix i : Int)) := by rw [hSm.cell]; exact (cell4 hO' hlt (q := 0) (by omega)).trans rfl
        have o1 : wr.cell? ⟨gq, i * 4 + 1, none⟩ = some (.int .i32 (d.node (d.T (d.ix i)))) := by rw [hSm.cell]; exact (cell4 hO' hlt (q := 1) (by omega)).trans rfl
        have o2 : wr.cell? ⟨gq, i * 4 + 2, none⟩ = some (.int .i32 (d.X (d.ix i))) := by rw [hSm.cell]; exact (cell4 hO' hlt (q := 2) (by omega)).trans rfl
        have o3 : wr.cell? ⟨gq, i * 4 + 3, none⟩ = some (.int .u8 (d.K (d.ix i))) := by rw [hSm.cell]; exact (cell4 hO' hlt (q := 3) (by omega)).trans rfl
        have hneq := neq_acc
        have hgu := guard45
        go_upto_region 96 with (fail)
        go_quiet (fail)
        clear hneq hgu x0 x1 x3 o0 o1 o2 o3 ca1 x2
        go_upto_block 20 with (fail)
        go_cut [45, 46] from 363 to 381 (fun f _ W' => (∃ z : Int, f = .int .i32 z ∧ Nxt d.obj m i z) ∧ Same W W')
        case first =>
          go_wp2_with fail
          go_loopw [45, 46] (fun f x W' => ∃ j : Nat, f = .int .i32 (-1) ∧ x = .int .i64 (j : Int) ∧ i < j ∧ j ≤ m ∧ (∀ q, i < q → q < j → d.obj q ≠ d.obj i) ∧ Same W W') (fun _ x _ => m - (intOf x).toNat)
          case atStart => exact ⟨i + 1, rfl, by go_num, by omega, by omega, fun q h1 h2 => by omega, hSm.drewN _⟩
          case round =>
            clear hSm
            obtain ⟨j, rfl, rfl, hij, hj, hq, hSm⟩ := hrel
            have HQ := hide hq
            clear hq
            have j0 : (0 : Int) ≤ (j : Int) := by omega
            by_cases hjm : j < m
            · have j1 : (j : Int) < (m : Int) := by omega
              have j2 : (j : Int) ≤ 4096 := by omega
              have jw : IntKind.i32.wrap (j : Int) = (j : Int) := wrap32_small _ (by omega) (by omega)
              have x2 : wr.cell? ⟨gx, i * 4 + 2, none⟩ = some (.int .i32 (d.obj i)) := by rw [hSm.cell]; exact (cell4 hE' hlt (q := 2) (by omega)).trans rfl
              have y2 : wr.cell? ⟨gx, j * 4 + 2, none⟩ = some (.int .i32 (d.obj j)) := by rw [hSm.cell]; exact (cell4 hE' hjm (q := 2) (by omega)).trans rfl
              by_cases hc : d.obj j = d.obj i
              · have HC := hide hc
                rw [hc] at y2
                clear hc
                go_upto_region 102 with (fail)
                go_quiet (fail)
                go_wp2
                go_meet
                case rel => exact ⟨⟨_, rfl, .inr ⟨j, hij, hjm, rfl, HC.out, HQ.out⟩⟩, hSm.drewN _⟩
              · have hc' : (d.obj j == d.obj i) = false := by simpa using hc
                have HC := hide hc
                clear hc
                go_upto_region 102 with (fail)
                go_quiet (fail)
                go_wp2
                refine ⟨⟨j + 1, rfl, by go_num, by omega, by omega, fun q h1 h2 => ?_, hSm.drewN _⟩, by simp [intOf]; omega⟩
                by_cases e : q = j
                · subst e; exact HC.out
                · exact HQ.out q h1 (by omega)
            · have j1 : ¬ (j : Int) < (m : Int) := by omega
              obtain rfl : j = m := by omega
              go_wp2
              go_meet
              case rel => exact ⟨⟨_, rfl, .inl ⟨rfl, HQ.out⟩⟩, hSm⟩
        case rest =>
        clear hSm
        obtain ⟨⟨z, rfl, hz⟩, hSm⟩ := hcut
        have hzz : z = nx i := by rw [EM.out] at hz; exact hz.uniq (HSX.out i (by rw [← EM.out]; exact hlt))
        subst hzz
        clear hz
        have ca2 : wc.cell? ⟨sa, 2, none⟩ = some (.slice (some ⟨gn, 0, none⟩) m ncap) := (hSm.blk hR.acc).cell rfl
        have cf : wc.cell? ⟨gn, i, none⟩ = some (.int .i32 (nx i)) := by rw [hSm.cell]; exact cells_own hX' hlt
        go_wp2
        exact ⟨⟨i + 1, by go_num, by omega, hSm⟩, by simp [intOf]; omega⟩
      · have i1 : ¬ (i : Int) < (m : Int) := by omega
        go_wp2
        go_meet
        case rel => exact hSm
  case rest =>
  rename_i hK
  exact hK _ _ (part_107 ok (hcut.env h) (hcut.res hR) hS (hcut.own HE.out))
end Go.Proofs.Ybulkfhsm.A
