/-
  The walk of the law A: the model of the accesses.
-/
import Derived.Test.YbulkfhsmALawG
namespace Go.Proofs.Ybulkfhsm.A
open Go.RowKit
attribute [local go_sem ↓] Go.wp_at_zero Go.wp_at_succ

set_option maxRecDepth 100000 in
set_option maxHeartbeats 16000000 in
theorem part_82 {w W : World} {d : Dat} {gh go gt gv gh' go' gt' gv' cv c1 c2 c3 c4 : Nat} {sa gf : Nat} {v oh nh : Value} {nx fs E : Nat → Int} {p : Nat → Nat} {gn : Nat} {u0 u1 u2 u3 u4 u5 u6 u8 u9 u10 u11 u12 u18 u19 u20 u21 u22 u23 u28 u30 u31 u33 u34 u35 u36 u37 u38 u39 u40 u41 u42 u43 u44 u45 u46 u47 u48 u49 u50 u51 u52 u53 u54 u55 u56 u57 u58 u59 u60 u61 u62 u63 u64 u65 u66 u67 u68 u69 u70 u71 u72 u73 u74 u75 u76 u77 u78 u79 u80 u81 u82 u83 u84 u85 u86 u87 u88 u89 u90 u91 u92 u93 u94 u95 u96 u97 u98 u99 u100 u101 u102 u103 u104 u105 u106 u107 u108 u109 u110 u111 u112 u113 u114 u115 u116 u117 u118 u119 u120 u121 u122 u123 u124 u125 u126 u127 u128 u129 u130 u131 u132 u133 u134 u135 u136 u137 u138 u139 u140 u141 u142 u143 u144 u145 u146 u147 u148 u149 u150 u151 u152 u153 u154 u155 u156 u157 u158 u159 u160 u161 u162 u163 u164 u165 u166 u167 u168 u169 u170 u171 u172 u173 u174 u175 u176 u177 u178 u179 u180 u181 u182 u183 u184 u185 u186 u187 u188 u189 u190 u191 u192 u193 u194 u195 u196 u197 u198 u199 u200 u201 u202 u203 u204 u205 u206 u207 u208 u209 u210 u211 u212 u213 u214 u215 u216 u217 u218 u219 u220 u221 u222 u223 u224 u225 u226 u227 u228 u229 u230 u231 u232 u233 u234 u235 u236 u237 u238 u239 u240 u241 u242 u243 u244 u245 u246 u247 u248 u249 u250 u251 u252 u253 u254 u255 u256 u257 u258 u259 u260 u261 u262 u263 u264 u265 u266 u267 u268 u269 u270 u271 u272 u273 u274 u275 u276 u277 u278 u279 u280 u281 u282 u283 u284 u285 u286 u287 u288 u289 u290 u291 u292 u293 u294 u295 u296 u297 u298 u299 u300 u301 u302 u303 u304 u305 u306 u307 u308 u309 u310 u311 u312 u313 u314 u315 u316 u317 u318 u319 u320 u321 u322 u323 u324 u325 u326 u327 u328 u329 u330 u331 u332 u333 u334 u335 u336 u337 u338 u339 u340 u341 u342 u343 u344 u345 u346 u347 u348 u349 u350 u351 u352 u353 u354 u355 u356 u357 u358 u359 u360 u361 u362 u363 u364 u365 u366 u367 u368 u369 u370 u371 u372 u373 u374 u375 u376 u377 u378 u379 u380 u381 u382 u383 u384 u385 u386 u387 u388 u389 u390 u391 u392 u393 u394 u395 u396 u397 u398 u399 u400 u401 u402 u403 u404 u405 u406 u407 u408 u409 u410 u411 u412 u413 u414 u415 u416 u417 u418 u419 u420 u421 u422 u423 u424 u425 u426 u427 u428 u429 u430 u431 u432 u433 u434 u435 u436 u437 u438 u439 u440 u441 u442 u443 u444 u445 u446 : Value} (ok : d.Ok) (h : Env w W d gh go gt gv gh' go' gt' gv') (hR : Res W d sa gf v oh nh nx fs E) (hS : Says d nx fs E p) (hn : Blk W gn 21 (rowF (fun t => .int .i32 (d.node t)) d.nt)) :
    Code.wp Yba.prog (piece Yba.f3.body 82) (bodyPost Yba.prog Yba.f3 (Yes w)) ⟨#[u0, u1, u2, u3, u4, u5, u6, .slice (some ⟨gv, 0, none⟩) d.nt cv, u8, u9, u10, u11, u12, .int .i64 (d.nt : Int), .int .i64 (d.objects : Int), .slice (some ⟨gh, 0, none⟩) d.N d.N, .slice (some ⟨go, 0, none⟩) d.N d.N, .slice (some ⟨gt, 0, none⟩) d.N d.N, u18, u19, u20, u21, u22, u23, .slice (some ⟨gh', 0, none⟩) d.N c1, .slice (some ⟨go', 0, none⟩) d.N c2, .slice (some ⟨gt', 0, none⟩) d.N c3, .slice (some ⟨gv', 0, none⟩) d.nt c4, u28, .pointer (some ⟨sa, 0, none⟩), u30, u31, .slice (some ⟨gn, 0, none⟩) d.nt d.nt, u33, u34, u35, u36, u37, u38, u39, u40, u41, u42, u43, u44, u45, u46, u47, u48, u49, u50, u51, u52, u53, u54, u55, u56, u57, u58, u59, u60, u61, u62, u63, u64, u65, u66, u67, u68, u69, u70, u71, u72, u73, u74, u75, u76, u77, u78, u79, u80, u81, u82, u83, u84, u85, u86, u87, u88, u89, u90, u91, u92, u93, u94, u95, u96, u97, u98, u99, u100, u101, u102, u103, u104, u105, u106, u107, u108, u109, u110, u111, u112, u113, u114, u115, u116, u117, u118, u119, u120, u121, u122, u123, u124, u125, u126, u127, u128, u129, u130, u131, u132, u133, u134, u135, u136, u137, u138, u139, u140, u141, u142, u143, u144, u145, u146, u147, u148, u149, u150, u151, u152, u153, u154, u155, u156, u157, u158, u159, u160, u161, u162, u163, u164, u165, u166, u167, u168, u169, u170, u171, u172, u173, u174, u175, u176, u177, u178, u179, u180, u181, u182, u183, u184, u185, u186, u187, u188, u189, u190, u191, u192, u193, u194, u195, u196, u197, u198, u199, u200, u201, u202, u203, u204, u205, u206, u207, u208, u209, u210, u211, u212, u213, u214, u215, u216, u217, u218, u219, u220, u221, u222, u223, u224, u225, u226, u227, u228, u229, u230, u231, u232, u233, u234, u235, u236, u237, u238, u239, u240, u241, u242, u243, u244, u245, u246, u247, u248, u249, u250, u251, u252, u253, u254, u255, u256, u257, u258, u259, u260, u261, u262, u263, u264, u265, u266, u267, u268, u269, u270, u271, u272, u273, u274, u275, u276, u277, u278, u279, u280, u281, u282, u283, u284, u285, u286, u287, u288, u289, u290, u291, u292, u293, u294, u295, u296, u297, u298, u299, u300, u301, u302, u303, u304, u305, u306, u307, u308, u309, u310, u311, u312, u313, u314, u315, u316, u317, u318, u319, u320, u321, u322, u323, u324, u325, u326, u327, u328, u329, u330, u331, u332, u333, u334, u335, u336, u337, u338, u339, u340, u341, u342, u343, u344, u345, u346, u347, u348, u349, u350, u351, u352, u353, u354, u355, u356, u357, u358, u359, u360, u361, u362, u363, u364, u365, u366, u367, u368, u369, u370, u371, u372, u373, u374, u375, u376, u377, u378, u379, u380, u381, u382, u383, u384, u385, u386, u387, u388, u389, u390, u391, u392, u393, u394, u395, u396, u397, u398, u399, u400, u401, u402, u403, u404, u405, u406, u407, u408, u409, u410, u411, u412, u413, u414, u415, u416, u417, u418, u419, u420, u421, u422, u423, u424, u425, u426, u427, u428, u429, u430, u431, u432, u433, u434, u435, u436, u437, u438, u439, u440, u441, u442, u443, u444, u445, u446], []⟩ W := by
  conv => arg 2; whnf
  have hN := ok.hN
  have n1 : (d.N : Int) ≤ 4096 := by omega
  have n0 : (0 : Int) ≤ (d.N : Int) := by omega
  have t1 : (d.nt : Int) ≤ 4096 := by have := ok.hnt; omega
  obtain ⟨B, eB⟩ : ∃ B, B = W.heap.size := ⟨_, rfl⟩
  have EB := hide eB
  obtain ⟨i45, ji, jz0, jz1, jz2⟩ := info_parts info45
  clear eB
  go_upto_block 16 with (fail)
  go_cut [40, 41, 42, 43] from 288 to 325 (fun ex _ _ _ W' => W'.ownsRow B 45 4 ex (d.cs d.N) (flatK d.acc (d.cs d.N)) ∧ Below B W W')
  case first =>
    go_wp2_with fail
    go_loopw [40, 288] (fun ex x W' => ∃ k : Nat, x = .int .i64 (k : Int) ∧ k ≤ d.N ∧ W'.ownsRow B 45 4 ex (d.cs k) (flatK d.acc (d.cs k)) ∧ Below B W W') (fun _ x _ => d.N - (intOf x).toNat)
    case atStart => exact ⟨0, rfl, by omega, World.ownsRow_nil _ _ _ _, Below.refl _ _⟩
    case round =>
      obtain ⟨k, rfl, hk, hown, hB⟩ := hrel
      have k0 : (0 : Int) ≤ (k : Int) := by omega
      by_cases hlt : k < d.N
      · have k1 : (k : Int) < (d.N : Int) := by omega
        have k2 : (k : Int) ≤ 4096 := by omega
        have kw : IntKind.i32.wrap (k : Int) = (k : Int) := wrap32_small _ (by omega) (by omega)
        have hT := ok.hT k hlt
        have t2 : (d.T k : Int) < (d.nt : Int) := by omega
        have t3 : (0 : Int) ≤ (d.T k : Int) := by omega
        have hL := h.lies.below (W' := wr) (by rw [← EB.out]; exact hB)
        have q0 := hL.ck k hlt
        have q3 := hL.tx k hlt
        have q4 := hL.ob k hlt
        have q5 := (hn.below hB (by rw [EB.out]; exact hn.lt)).at hT
        clear hL
        go_upto_region 88 with (fail)
        go_cut [312] from 303 to 325 (fun b W' => b = .bool (d.sel k) ∧ W' = wr)
        case first =>
          by_cases hs1 : 0 ≤ d.node (d.T k)
          · by_cases hs2 : d.K k = 1
            · have e : d.sel k = true := by simp [Dat.sel, hs1, hs2]
              have HEs := hide e
              clear e
              have hs2' : (d.K k == 1) = true := by simpa using hs2
              clear hs2
              go_wp2
              go_meet
              case rel => exact ⟨by rw [HEs.out], rfl⟩
            · have hs2' : (d.K k == 1) = false := by simpa using hs2
              by_cases hs3 : d.K k = 2
              · have e : d.sel k = true := by simp [Dat.sel, hs1, hs3]
                have HEs := hide e
                clear e hs2
                have hs3' : (d.K k == 2) = true := by simpa using hs3
                clear hs3
                go_wp2
                go_meet
                case rel => exact ⟨by rw [HEs.out], rfl⟩
              · have e : d.sel k = false := by simp [Dat.sel, hs2, hs3]
                have HEs := hide e
                have hs3' : (d.K k == 2) = false := by simpa using hs3
                clear e hs2 hs3
                go_wp2
                go_meet
                case rel => exact ⟨by rw [HEs.out], rfl⟩
          · have e : d.sel k = false := by simp [Dat.sel, hs1]
            have HEs := hide e
            clear e
            go_wp2
            go_meet
            case rel => exact ⟨by rw [HEs.out], rfl⟩
        case rest =>
        obtain ⟨rfl, ew⟩ := hcut
        obtain rfl := ew.symm
        by_cases hsel : d.sel k = true
        · have hcs : d.cs (k + 1) = d.cs k + 1 := by rw [cs_succ, if_pos hsel]
          have hix := ix_cs d hlt hsel
          have hcl := cs_le d k
          obtain ⟨m, em⟩ : ∃ m, m = d.cs k := ⟨_, rfl⟩
          have hacc : d.acc m = [.int .i32 (k : Int), .int .i32 (d.node (d.T k)), .int .i32 (d.X k), .int .u8 (d.K k)] := by rw [em, Dat.acc, hix]
          rw [← em] at hown hcl hcs
          have HACC := hide hacc
          have HCS := hide hcs
          rw [hsel]
          clear em hacc hcs hix hsel
          obtain ⟨ea, ecap, rfl⟩ := slice_form hown
          have lB : B ≤ wr.heap.size := by rw [EB.out]; exact hB.size
          go_wp2_with (at_builtin; refine wpList_append_lies _ rfl _ _ 41 rfl B 45 i45 _ 4 16 Yba.underlying41 ji jz0 jz1 jz2 rfl (by omega) _ m (flatK d.acc m) rfl (by exact hown.alloc _) _ 1 1 [.int .i32 (k : Int), .int .i32 (d.node (d.T k)), .int .i32 (d.X k), .int .u8 (d.K k)] rfl rfl (by exact World.news_of_block (heap_alloc_new _ _)) (by simp [Value.oneCell']) (by omega) (by simp only [maxLen]; omega) (by omega) (by simp only [World.size_alloc]; omega) _ rfl ?_; intro g cap w3 hown3 hgrow hat hlt3)
          refine ⟨⟨k + 1, by go_num, by omega, ?_, Below.grown (hB.alloc lB _) hgrow (by simp only [World.size_alloc]; omega) (fun k e => (hown.lt k e).1)⟩, by simp [intOf]; omega⟩
          rw [HCS.out]
          show World.ownsRow _ _ _ _ _ _ (flatK d.acc m ++ d.acc m)
          rw [HACC.out]
          exact hown3
        · have hsel' : d.sel k = false := by simpa using hsel
          have hcs : d.cs (k + 1) = d.cs k := by rw [cs_succ, if_neg hsel]; rfl
          have HCS := hide hcs
          rw [hsel']
          clear hcs hsel hsel'
          go_wp2
          refine ⟨⟨k + 1, by go_num, by omega, ?_, hB⟩, by simp [intOf]; omega⟩
          rw [HCS.out]
          exact hown
      · have k1 : ¬ (k : Int) < (d.N : Int) := by omega
        obtain rfl : k = d.N := by omega
        go_wp2
        go_meet
        case rel => exact ⟨hown, hB⟩
  case rest =>
  rename_i hK
  have hb : Below W.heap.size W wc := by rw [← EB.out]; exact hcut.2
  exact hK _ _ (part_91 ok (h.below hb) (hR.below hb) hS (own_mono hcut.1 (Nat.zero_le _)))
end Go.Proofs.Ybulkfhsm.A
