/-
  The walk of the law A: the copies, and the call.
-/
import Derived.Test.YbulkfhsmALawB
namespace Go.Proofs.Ybulkfhsm.A
open Go.RowKit
attribute [local go_sem ↓] Go.wp_at_zero Go.wp_at_succ

theorem ptr_some (a : Addr) (w : World) : (binOp .eql 38 (.pointer (some a)) (.pointer none)).run Yba.prog w = .ok (.bool false) w := by kernel_rfl

set_option maxRecDepth 100000 in
set_option maxHeartbeats 16000000 in
theorem part_39 {w W : World} {d : Dat} {gh go gt gv cv : Nat} {u0 u1 u2 u3 u4 u5 u6 u8 u9 u10 u11 u12 u18 u19 u20 u21 u22 u23 u24 u25 u26 u27 u28 u29 u30 u31 u32 u33 u34 u35 u36 u37 u38 u39 u40 u41 u42 u43 u44 u45 u46 u47 u48 u49 u50 u51 u52 u53 u54 u55 u56 u57 u58 u59 u60 u61 u62 u63 u64 u65 u66 u67 u68 u69 u70 u71 u72 u73 u74 u75 u76 u77 u78 u79 u80 u81 u82 u83 u84 u85 u86 u87 u88 u89 u90 u91 u92 u93 u94 u95 u96 u97 u98 u99 u100 u101 u102 u103 u104 u105 u106 u107 u108 u109 u110 u111 u112 u113 u114 u115 u116 u117 u118 u119 u120 u121 u122 u123 u124 u125 u126 u127 u128 u129 u130 u131 u132 u133 u134 u135 u136 u137 u138 u139 u140 u141 u142 u143 u144 u145 u146 u147 u148 u149 u150 u151 u152 u153 u154 u155 u156 u157 u158 u159 u160 u161 u162 u163 u164 u165 u166 u167 u168 u169 u170 u171 u172 u173 u174 u175 u176 u177 u178 u179 u180 u181 u182 u183 u184 u185 u186 u187 u188 u189 u190 u191 u192 u193 u194 u195 u196 u197 u198 u199 u200 u201 u202 u203 u204 u205 u206 u207 u208 u209 u210 u211 u212 u213 u214 u215 u216 u217 u218 u219 u220 u221 u222 u223 u224 u225 u226 u227 u228 u229 u230 u231 u232 u233 u234 u235 u236 u237 u238 u239 u240 u241 u242 u243 u244 u245 u246 u247 u248 u249 u250 u251 u252 u253 u254 u255 u256 u257 u258 u259 u260 u261 u262 u263 u264 u265 u266 u267 u268 u269 u270 u271 u272 u273 u274 u275 u276 u277 u278 u279 u280 u281 u282 u283 u284 u285 u286 u287 u288 u289 u290 u291 u292 u293 u294 u295 u296 u297 u298 u299 u300 u301 u302 u303 u304 u305 u306 u307 u308 u309 u310 u311 u312 u313 u314 u315 u316 u317 u318 u319 u320 u321 u322 u323 u324 u325 u326 u327 u328 u329 u330 u331 u332 u333 u334 u335 u336 u337 u338 u339 u340 u341 u342 u343 u344 u345 u346 u347 u348 u349 u350 u351 u352 u353 u354 u355 u356 u357 u358 u359 u360 u361 u362 u363 u364 u365 u366 u367 u368 u369 u370 u371 u372 u373 u374 u375 u376 u377 u378 u379 u380 u381 u382 u383 u384 u385 u386 u387 u388 u389 u390 u391 u392 u393 u394 u395 u396 u397 u398 u399 u400 u401 u402 u403 u404 u405 u406 u407 u408 u409 u410 u411 u412 u413 u414 u415 u416 u417 u418 u419 u420 u421 u422 u423 u424 u425 u426 u427 u428 u429 u430 u431 u432 u433 u434 u435 u436 u437 u438 u439 u440 u441 u442 u443 u444 u445 u446 : Value} (ok : d.Ok) (h : Lies W d gh go gt gv) (hB : Below w.heap.size w W) :
    Code.wp Yba.prog (piece Yba.f3.body 39) (bodyPost Yba.prog Yba.f3 (Yes w)) ⟨#[u0, u1, u2, u3, u4, u5, u6, .slice (some ⟨gv, 0, none⟩) d.nt cv, u8, u9, u10, u11, u12, .int .i64 (d.nt : Int), .int .i64 (d.objects : Int), .slice (some ⟨gh, 0, none⟩) d.N d.N, .slice (some ⟨go, 0, none⟩) d.N d.N, .slice (some ⟨gt, 0, none⟩) d.N d.N, u18, u19, u20, u21, u22, u23, u24, u25, u26, u27, u28, u29, u30, u31, u32, u33, u34, u35, u36, u37, u38, u39, u40, u41, u42, u43, u44, u45, u46, u47, u48, u49, u50, u51, u52, u53, u54, u55, u56, u57, u58, u59, u60, u61, u62, u63, u64, u65, u66, u67, u68, u69, u70, u71, u72, u73, u74, u75, u76, u77, u78, u79, u80, u81, u82, u83, u84, u85, u86, u87, u88, u89, u90, u91, u92, u93, u94, u95, u96, u97, u98, u99, u100, u101, u102, u103, u104, u105, u106, u107, u108, u109, u110, u111, u112, u113, u114, u115, u116, u117, u118, u119, u120, u121, u122, u123, u124, u125, u126, u127, u128, u129, u130, u131, u132, u133, u134, u135, u136, u137, u138, u139, u140, u141, u142, u143, u144, u145, u146, u147, u148, u149, u150, u151, u152, u153, u154, u155, u156, u157, u158, u159, u160, u161, u162, u163, u164, u165, u166, u167, u168, u169, u170, u171, u172, u173, u174, u175, u176, u177, u178, u179, u180, u181, u182, u183, u184, u185, u186, u187, u188, u189, u190, u191, u192, u193, u194, u195, u196, u197, u198, u199, u200, u201, u202, u203, u204, u205, u206, u207, u208, u209, u210, u211, u212, u213, u214, u215, u216, u217, u218, u219, u220, u221, u222, u223, u224, u225, u226, u227, u228, u229, u230, u231, u232, u233, u234, u235, u236, u237, u238, u239, u240, u241, u242, u243, u244, u245, u246, u247, u248, u249, u250, u251, u252, u253, u254, u255, u256, u257, u258, u259, u260, u261, u262, u263, u264, u265, u266, u267, u268, u269, u270, u271, u272, u273, u274, u275, u276, u277, u278, u279, u280, u281, u282, u283, u284, u285, u286, u287, u288, u289, u290, u291, u292, u293, u294, u295, u296, u297, u298, u299, u300, u301, u302, u303, u304, u305, u306, u307, u308, u309, u310, u311, u312, u313, u314, u315, u316, u317, u318, u319, u320, u321, u322, u323, u324, u325, u326, u327, u328, u329, u330, u331, u332, u333, u334, u335, u336, u337, u338, u339, u340, u341, u342, u343, u344, u345, u346, u347, u348, u349, u350, u351, u352, u353, u354, u355, u356, u357, u358, u359, u360, u361, u362, u363, u364, u365, u366, u367, u368, u369, u370, u371, u372, u373, u374, u375, u376, u377, u378, u379, u380, u381, u382, u383, u384, u385, u386, u387, u388, u389, u390, u391, u392, u393, u394, u395, u396, u397, u398, u399, u400, u401, u402, u403, u404, u405, u406, u407, u408, u409, u410, u411, u412, u413, u414, u415, u416, u417, u418, u419, u420, u421, u422, u423, u424, u425, u426, u427, u428, u429, u430, u431, u432, u433, u434, u435, u436, u437, u438, u439, u440, u441, u442, u443, u444, u445, u446], []⟩ W := by
  conv => arg 2; whnf
  dsimp only
  have hN := ok.hN
  have hnt := ok.hnt
  go_wp2_with fail
  refine (cloneH_any ok h.ck h.ct h.co _).mono ?_
  rintro e w1 ⟨gh', c1, rfl, ⟨k1, k2, k3⟩, hB1⟩
  have h1 := h.below hB1
  go_wp2_with fail
  refine (cloneI_any hN h1.ob _).1.mono ?_
  rintro e w2 ⟨go', c2, rfl, k4, hB2⟩
  have h2 := h1.below hB2
  go_wp2_with fail
  refine (cloneI_any hN h2.tx _).1.mono ?_
  rintro e w3 ⟨gt', c3, rfl, k5, hB3⟩
  have h3 := h2.below hB3
  go_wp2_with fail
  refine (cloneI_any hnt h3.tv _).2.mono ?_
  rintro e w4 ⟨gv', c4, rfl, k6, hB4⟩
  have h4 := h3.below hB4
  have HC : Hid (Lies w4 d gh' go' gt' gv') := ⟨fun i hi => cell_below hB4 (cell_below hB3 (cell_below hB2 (k1 i hi))), fun i hi => cell_below hB4 (cell_below hB3 (cell_below hB2 (k2 i hi))), fun i hi => cell_below hB4 (cell_below hB3 (cell_below hB2 (k3 i hi))), fun i hi => cell_below hB4 (cell_below hB3 (k4 i hi)), fun i hi => cell_below hB4 (k5 i hi), k6⟩
  have HB4 : Hid (Below w.heap.size w w4) := hB.trans ((hB1.trans ((hB2.mono hB1.size).trans ((hB3.mono (Nat.le_trans hB1.size hB2.size)).trans (hB4.mono (Nat.le_trans hB1.size (Nat.le_trans hB2.size hB3.size)))))).mono hB.size)
  have H4 := hide h4
  clear k1 k2 k3 k4 k5 k6 h1 h2 h3 h4 hB1 hB2 hB3 hB4
  go_wp2_with fail
  refine (new_any (go := go) (gt := gt) (gv := gv) (cv := cv) ok (H4.out.below ((Below.refl _ w4).alloc (Nat.le_refl _) _))).mono ?_
  rintro e w5 ⟨sa, gf, v, oh, nh, nx, fs, E, p, rfl, r1, r2, r3, r4, r5, r6, r7, r8, r9, r10⟩
  have hb5 : Below w4.heap.size w4 w5 := ((Below.refl _ w4).alloc (Nat.le_refl _) _).trans (r10.mono (by simp))
  have HENV : Hid (Env w w5 d gh go gt gv gh' go' gt' gv') := ⟨H4.out.below hb5, HC.out.below hb5, HB4.out.trans (hb5.mono HB4.out.size)⟩
  have HRES : Hid (Res w5 d sa gf v oh nh nx fs E) := ⟨r1, r2, own_mono r3 (Nat.zero_le _), own_mono r4 (Nat.zero_le _), own_mono r5 (Nat.zero_le _)⟩
  have HSAY : Hid (Says d nx fs E p) := ⟨r6, r7, r8, r9⟩
  clear r1 r2 r3 r4 r5 r6 r7 r8 r9 r10 hb5
  have ep := ptr_some
  go_upto_if 175 with (fail)
  rename_i hK
  exact wp_cond_false rfl (wp_skip (hK _ _ (part_47 ok HENV.out HRES.out HSAY.out)))
end Go.Proofs.Ybulkfhsm.A
