/-
  The walk of the law A: the nodes' transactions compared.
-/
import Derived.Test.YbulkfhsmALawF
namespace Go.Proofs.Ybulkfhsm.A
open Go.RowKit
attribute [local go_sem ↓] Go.wp_at_zero Go.wp_at_succ

/-- The model's list of the nodes' transactions. -/
def Model (d : Dat) (xt : Nat → Int) : Prop := ∀ t, t < d.nt → d.left t = false → xt (d.rank t) = d.V t

theorem model_same {d : Dat} {p : Nat → Nat} {E xt : Nat → Int} (hO : Ord d p) (hV : Vals d p d.nt E) (hM : Model d xt) {i : Nat} (hi : i < d.total) : E i = xt i := by
  rw [hO.total] at hi
  obtain ⟨q, q1, q2, q3⟩ := pos_hit d p hi
  have h1 := hV q q1 q2
  have h2 := hM (p q) (hO.lt q1) q2
  rw [hO.rank q1, q3] at h2
  rw [q3] at h1
  rw [h1, h2]

set_option maxRecDepth 100000 in
set_option maxHeartbeats 16000000 in
theorem part_75 {w W : World} {d : Dat} {gh go gt gv gh' go' gt' gv' cv c1 c2 c3 c4 : Nat} {sa gf : Nat} {v oh nh : Value} {nx fs E : Nat → Int} {p : Nat → Nat} {gn ge : Nat} {xt : Nat → Int} {u0 u1 u2 u3 u4 u5 u6 u8 u9 u10 u11 u12 u18 u19 u20 u21 u22 u23 u28 u30 u31 u34 u35 u36 u38 u39 u40 u41 u42 u43 u44 u45 u46 u47 u48 u49 u50 u51 u52 u53 u54 u55 u56 u57 u58 u59 u60 u61 u62 u63 u64 u65 u66 u67 u68 u69 u70 u71 u72 u73 u74 u75 u76 u77 u78 u79 u80 u81 u82 u83 u84 u85 u86 u87 u88 u89 u90 u91 u92 u93 u94 u95 u96 u97 u98 u99 u100 u101 u102 u103 u104 u105 u106 u107 u108 u109 u110 u111 u112 u113 u114 u115 u116 u117 u118 u119 u120 u121 u122 u123 u124 u125 u126 u127 u128 u129 u130 u131 u132 u133 u134 u135 u136 u137 u138 u139 u140 u141 u142 u143 u144 u145 u146 u147 u148 u149 u150 u151 u152 u153 u154 u155 u156 u157 u158 u159 u160 u161 u162 u163 u164 u165 u166 u167 u168 u169 u170 u171 u172 u173 u174 u175 u176 u177 u178 u179 u180 u181 u182 u183 u184 u185 u186 u187 u188 u189 u190 u191 u192 u193 u194 u195 u196 u197 u198 u199 u200 u201 u202 u203 u204 u205 u206 u207 u208 u209 u210 u211 u212 u213 u214 u215 u216 u217 u218 u219 u220 u221 u222 u223 u224 u225 u226 u227 u228 u229 u230 u231 u232 u233 u234 u235 u236 u237 u238 u239 u240 u241 u242 u243 u244 u245 u246 u247 u248 u249 u250 u251 u252 u253 u254 u255 u256 u257 u258 u259 u260 u261 u262 u263 u264 u265 u266 u267 u268 u269 u270 u271 u272 u273 u274 u275 u276 u277 u278 u279 u280 u281 u282 u283 u284 u285 u286 u287 u288 u289 u290 u291 u292 u293 u294 u295 u296 u297 u298 u299 u300 u301 u302 u303 u304 u305 u306 u307 u308 u309 u310 u311 u312 u313 u314 u315 u316 u317 u318 u319 u320 u321 u322 u323 u324 u325 u326 u327 u328 u329 u330 u331 u332 u333 u334 u335 u336 u337 u338 u339 u340 u341 u342 u343 u344 u345 u346 u347 u348 u349 u350 u351 u352 u353 u354 u355 u356 u357 u358 u359 u360 u361 u362 u363 u364 u365 u366 u367 u368 u369 u370 u371 u372 u373 u374 u375 u376 u377 u378 u379 u380 u381 u382 u383 u384 u385 u386 u387 u388 u389 u390 u391 u392 u393 u394 u395 u396 u397 u398 u399 u400 u401 u402 u403 u404 u405 u406 u407 u408 u409 u410 u411 u412 u413 u414 u415 u416 u417 u418 u419 u420 u421 u422 u423 u424 u425 u426 u427 u428 u429 u430 u431 u432 u433 u434 u435 u436 u437 u438 u439 u440 u441 u442 u443 u444 u445 u446 : Value} (ok : d.Ok) (h : Env w W d gh go gt gv gh' go' gt' gv') (hR : Res W d sa gf v oh nh nx fs E) (hS : Says d nx fs E p) (hn : Blk W gn 21 (rowF (fun t => .int .i32 (d.node t)) d.nt)) (he : Blk W ge 25 (rowF (fun i => .int .i32 (xt i)) d.total)) (hM : Model d xt) :
    Code.wp Yba.prog (piece Yba.f3.body 75) (bodyPost Yba.prog Yba.f3 (Yes w)) ⟨#[u0, u1, u2, u3, u4, u5, u6, .slice (some ⟨gv, 0, none⟩) d.nt cv, u8, u9, u10, u11, u12, .int .i64 (d.nt : Int), .int .i64 (d.objects : Int), .slice (some ⟨gh, 0, none⟩) d.N d.N, .slice (some ⟨go, 0, none⟩) d.N d.N, .slice (some ⟨gt, 0, none⟩) d.N d.N, u18, u19, u20, u21, u22, u23, .slice (some ⟨gh', 0, none⟩) d.N c1, .slice (some ⟨go', 0, none⟩) d.N c2, .slice (some ⟨gt', 0, none⟩) d.N c3, .slice (some ⟨gv', 0, none⟩) d.nt c4, u28, .pointer (some ⟨sa, 0, none⟩), u30, u31, .slice (some ⟨gn, 0, none⟩) d.nt d.nt, .int .i64 (d.total : Int), u34, u35, u36, .slice (some ⟨ge, 0, none⟩) d.total d.total, u38, u39, u40, u41, u42, u43, u44, u45, u46, u47, u48, u49, u50, u51, u52, u53, u54, u55, u56, u57, u58, u59, u60, u61, u62, u63, u64, u65, u66, u67, u68, u69, u70, u71, u72, u73, u74, u75, u76, u77, u78, u79, u80, u81, u82, u83, u84, u85, u86, u87, u88, u89, u90, u91, u92, u93, u94, u95, u96, u97, u98, u99, u100, u101, u102, u103, u104, u105, u106, u107, u108, u109, u110, u111, u112, u113, u114, u115, u116, u117, u118, u119, u120, u121, u122, u123, u124, u125, u126, u127, u128, u129, u130, u131, u132, u133, u134, u135, u136, u137, u138, u139, u140, u141, u142, u143, u144, u145, u146, u147, u148, u149, u150, u151, u152, u153, u154, u155, u156, u157, u158, u159, u160, u161, u162, u163, u164, u165, u166, u167, u168, u169, u170, u171, u172, u173, u174, u175, u176, u177, u178, u179, u180, u181, u182, u183, u184, u185, u186, u187, u188, u189, u190, u191, u192, u193, u194, u195, u196, u197, u198, u199, u200, u201, u202, u203, u204, u205, u206, u207, u208, u209, u210, u211, u212, u213, u214, u215, u216, u217, u218, u219, u220, u221, u222, u223, u224, u225, u226, u227, u228, u229, u230, u231, u232, u233, u234, u235, u236, u237, u238, u239, u240, u241, u242, u243, u244, u245, u246, u247, u248, u249, u250, u251, u252, u253, u254, u255, u256, u257, u258, u259, u260, u261, u262, u263, u264, u265, u266, u267, u268, u269, u270, u271, u272, u273, u274, u275, u276, u277, u278, u279, u280, u281, u282, u283, u284, u285, u286, u287, u288, u289, u290, u291, u292, u293, u294, u295, u296, u297, u298, u299, u300, u301, u302, u303, u304, u305, u306, u307, u308, u309, u310, u311, u312, u313, u314, u315, u316, u317, u318, u319, u320, u321, u322, u323, u324, u325, u326, u327, u328, u329, u330, u331, u332, u333, u334, u335, u336, u337, u338, u339, u340, u341, u342, u343, u344, u345, u346, u347, u348, u349, u350, u351, u352, u353, u354, u355, u356, u357, u358, u359, u360, u361, u362, u363, u364, u365, u366, u367, u368, u369, u370, u371, u372, u373, u374, u375, u376, u377, u378, u379, u380, u381, u382, u383, u384, u385, u386, u387, u388, u389, u390, u391, u392, u393, u394, u395, u396, u397, u398, u399, u400, u401, u402, u403, u404, u405, u406, u407, u408, u409, u410, u411, u412, u413, u414, u415, u416, u417, u418, u419, u420, u421, u422, u423, u424, u425, u426, u427, u428, u429, u430, u431, u432, u433, u434, u435, u436, u437, u438, u439, u440, u441, u442, u443, u444, u445, u446], []⟩ W := by
  conv => arg 2; whnf
  have htt := total_le d
  have hnt := ok.hnt
  have HEQ := hide (fun i (hi : i < d.total) => model_same hS.ord hS.vals hM hi)
  obtain ⟨m, em⟩ : ∃ m, m = d.total := ⟨_, rfl⟩
  have hV' := hR.val
  have he' := he
  rw [← em] at hV' he' htt HEQ
  have HEM := hide em
  have m1 : (m : Int) ≤ 4096 := by omega
  have m0 : (0 : Int) ≤ (m : Int) := by omega
  obtain ⟨va, vcap, rfl⟩ := slice_form hV'
  have ca0 : W.cell? ⟨sa, 0, none⟩ = some (.slice va m vcap) := hR.acc.cell rfl
  rw [← em]
  clear em
  go_upto_block 14 with (fail)
  go_cut [39] from 269 to 285 (fun _ W' => Same W W')
  case first =>
    go_wp2_with fail
    go_loopw [39] (fun x W' => ∃ i : Nat, x = .int .i64 (i : Int) ∧ i ≤ m ∧ Same W W') (fun x _ => m - (intOf x).toNat)
    case atStart => exact ⟨0, rfl, by omega, Same.refl _⟩
    case round =>
      clear ca0
      obtain ⟨i, rfl, hi, hSm⟩ := hrel
      have i0 : (0 : Int) ≤ (i : Int) := by omega
      by_cases hlt : i < m
      · have i1 : (i : Int) < (m : Int) := by omega
        obtain ⟨gx, xc, e, _⟩ := row_form hV' (by omega)
        cases e
        have ca0 : wr.cell? ⟨sa, 0, none⟩ = some (.slice (some ⟨gx, 0, none⟩) m vcap) := (hSm.blk hR.acc).cell rfl
        have x0 : wr.cell? ⟨gx, i, none⟩ = some (.int .i32 (xt i)) := by rw [hSm.cell, ← HEQ.out i hlt]; exact cells_own hV' hlt
        have x1 := (hSm.blk he').at hlt
        go_upto_region 80 with (fail)
        go_quiet (fail)
        go_wp2
        exact ⟨⟨i + 1, by go_num, by omega, hSm.drewN _⟩, by simp [intOf]; omega⟩
      · have i1 : ¬ (i : Int) < (m : Int) := by omega
        go_wp2
        go_meet
        case rel => exact hSm
  case rest =>
  rename_i hK
  exact hK _ _ (part_82 ok (hcut.env h) (hcut.res hR) hS (hcut.blk hn))
end Go.Proofs.Ybulkfhsm.A
