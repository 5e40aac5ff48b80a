/-
  The walk of the law A: the model of the nodes.
-/
import Derived.Test.YbulkfhsmALawD
namespace Go.Proofs.Ybulkfhsm.A
open Go.RowKit
attribute [local go_sem ↓] Go.wp_at_zero Go.wp_at_succ

def cntTo (d : Dat) (t : Nat) : Nat := (List.range t).countP fun u => !d.left u
def lessTo (d : Dat) (t u : Nat) : Nat := (List.range u).countP fun x => !d.left x && decide (d.V x < d.V t)

theorem cntTo_succ (d : Dat) (t : Nat) : cntTo d (t + 1) = cntTo d t + if d.left t = true then 0 else 1 := by
  unfold cntTo
  rw [List.range_succ, List.countP_append]
  by_cases h : d.left t = true <;> simp [h]
theorem cntTo_le (d : Dat) (t : Nat) : cntTo d t ≤ t := by
  unfold cntTo
  have := List.countP_le_length (p := fun u => !d.left u) (l := List.range t)
  simpa using this
theorem lessTo_succ (d : Dat) (t u : Nat) : lessTo d t (u + 1) = lessTo d t u + if d.left u = false ∧ d.V u < d.V t then 1 else 0 := by
  unfold lessTo
  rw [List.range_succ, List.countP_append]
  by_cases h : d.left u = true <;> by_cases h2 : d.V u < d.V t <;> simp [h, h2]
theorem lessTo_le (d : Dat) (t u : Nat) : lessTo d t u ≤ u := by
  unfold lessTo
  have := List.countP_le_length (p := fun x => !d.left x && decide (d.V x < d.V t)) (l := List.range u)
  simpa using this

set_option maxRecDepth 100000 in
set_option maxHeartbeats 16000000 in
theorem part_54 {w W : World} {d : Dat} {gh go gt gv gh' go' gt' gv' cv c1 c2 c3 c4 : Nat} {sa gf : Nat} {v oh nh : Value} {nx fs E : Nat → Int} {p : Nat → Nat} {ga : Nat} {u0 u1 u2 u3 u4 u5 u6 u8 u9 u10 u11 u12 u18 u19 u20 u21 u22 u23 u28 u31 u32 u33 u34 u35 u36 u37 u38 u39 u40 u41 u42 u43 u44 u45 u46 u47 u48 u49 u50 u51 u52 u53 u54 u55 u56 u57 u58 u59 u60 u61 u62 u63 u64 u65 u66 u67 u68 u69 u70 u71 u72 u73 u74 u75 u76 u77 u78 u79 u80 u81 u82 u83 u84 u85 u86 u87 u88 u89 u90 u91 u92 u93 u94 u95 u96 u97 u98 u99 u100 u101 u102 u103 u104 u105 u106 u107 u108 u109 u110 u111 u112 u113 u114 u115 u116 u117 u118 u119 u120 u121 u122 u123 u124 u125 u126 u127 u128 u129 u130 u131 u132 u133 u134 u135 u136 u137 u138 u139 u140 u141 u142 u143 u144 u145 u146 u147 u148 u149 u150 u151 u152 u153 u154 u155 u156 u157 u158 u159 u160 u161 u162 u163 u164 u165 u166 u167 u168 u169 u170 u171 u172 u173 u174 u175 u176 u177 u178 u179 u180 u181 u182 u183 u184 u185 u186 u187 u188 u189 u190 u191 u192 u193 u194 u195 u196 u197 u198 u199 u200 u201 u202 u203 u204 u205 u206 u207 u208 u209 u210 u211 u212 u213 u214 u215 u216 u217 u218 u219 u220 u221 u222 u223 u224 u225 u226 u227 u228 u229 u230 u231 u232 u233 u234 u235 u236 u237 u238 u239 u240 u241 u242 u243 u244 u245 u246 u247 u248 u249 u250 u251 u252 u253 u254 u255 u256 u257 u258 u259 u260 u261 u262 u263 u264 u265 u266 u267 u268 u269 u270 u271 u272 u273 u274 u275 u276 u277 u278 u279 u280 u281 u282 u283 u284 u285 u286 u287 u288 u289 u290 u291 u292 u293 u294 u295 u296 u297 u298 u299 u300 u301 u302 u303 u304 u305 u306 u307 u308 u309 u310 u311 u312 u313 u314 u315 u316 u317 u318 u319 u320 u321 u322 u323 u324 u325 u326 u327 u328 u329 u330 u331 u332 u333 u334 u335 u336 u337 u338 u339 u340 u341 u342 u343 u344 u345 u346 u347 u348 u349 u350 u351 u352 u353 u354 u355 u356 u357 u358 u359 u360 u361 u362 u363 u364 u365 u366 u367 u368 u369 u370 u371 u372 u373 u374 u375 u376 u377 u378 u379 u380 u381 u382 u383 u384 u385 u386 u387 u388 u389 u390 u391 u392 u393 u394 u395 u396 u397 u398 u399 u400 u401 u402 u403 u404 u405 u406 u407 u408 u409 u410 u411 u412 u413 u414 u415 u416 u417 u418 u419 u420 u421 u422 u423 u424 u425 u426 u427 u428 u429 u430 u431 u432 u433 u434 u435 u436 u437 u438 u439 u440 u441 u442 u443 u444 u445 u446 : Value} (ok : d.Ok) (h : Env w W d gh go gt gv gh' go' gt' gv') (hR : Res W d sa gf v oh nh nx fs E) (hS : Says d nx fs E p) (ha : Blk W ga 4 (rowF (fun t => .bool (d.left t)) d.nt)) :
    Code.wp Yba.prog (piece Yba.f3.body 54) (bodyPost Yba.prog Yba.f3 (Yes w)) ⟨#[u0, u1, u2, u3, u4, u5, u6, .slice (some ⟨gv, 0, none⟩) d.nt cv, u8, u9, u10, u11, u12, .int .i64 (d.nt : Int), .int .i64 (d.objects : Int), .slice (some ⟨gh, 0, none⟩) d.N d.N, .slice (some ⟨go, 0, none⟩) d.N d.N, .slice (some ⟨gt, 0, none⟩) d.N d.N, u18, u19, u20, u21, u22, u23, .slice (some ⟨gh', 0, none⟩) d.N c1, .slice (some ⟨go', 0, none⟩) d.N c2, .slice (some ⟨gt', 0, none⟩) d.N c3, .slice (some ⟨gv', 0, none⟩) d.nt c4, u28, .pointer (some ⟨sa, 0, none⟩), .slice (some ⟨ga, 0, none⟩) d.nt d.nt, u31, u32, u33, u34, u35, u36, u37, u38, u39, u40, u41, u42, u43, u44, u45, u46, u47, u48, u49, u50, u51, u52, u53, u54, u55, u56, u57, u58, u59, u60, u61, u62, u63, u64, u65, u66, u67, u68, u69, u70, u71, u72, u73, u74, u75, u76, u77, u78, u79, u80, u81, u82, u83, u84, u85, u86, u87, u88, u89, u90, u91, u92, u93, u94, u95, u96, u97, u98, u99, u100, u101, u102, u103, u104, u105, u106, u107, u108, u109, u110, u111, u112, u113, u114, u115, u116, u117, u118, u119, u120, u121, u122, u123, u124, u125, u126, u127, u128, u129, u130, u131, u132, u133, u134, u135, u136, u137, u138, u139, u140, u141, u142, u143, u144, u145, u146, u147, u148, u149, u150, u151, u152, u153, u154, u155, u156, u157, u158, u159, u160, u161, u162, u163, u164, u165, u166, u167, u168, u169, u170, u171, u172, u173, u174, u175, u176, u177, u178, u179, u180, u181, u182, u183, u184, u185, u186, u187, u188, u189, u190, u191, u192, u193, u194, u195, u196, u197, u198, u199, u200, u201, u202, u203, u204, u205, u206, u207, u208, u209, u210, u211, u212, u213, u214, u215, u216, u217, u218, u219, u220, u221, u222, u223, u224, u225, u226, u227, u228, u229, u230, u231, u232, u233, u234, u235, u236, u237, u238, u239, u240, u241, u242, u243, u244, u245, u246, u247, u248, u249, u250, u251, u252, u253, u254, u255, u256, u257, u258, u259, u260, u261, u262, u263, u264, u265, u266, u267, u268, u269, u270, u271, u272, u273, u274, u275, u276, u277, u278, u279, u280, u281, u282, u283, u284, u285, u286, u287, u288, u289, u290, u291, u292, u293, u294, u295, u296, u297, u298, u299, u300, u301, u302, u303, u304, u305, u306, u307, u308, u309, u310, u311, u312, u313, u314, u315, u316, u317, u318, u319, u320, u321, u322, u323, u324, u325, u326, u327, u328, u329, u330, u331, u332, u333, u334, u335, u336, u337, u338, u339, u340, u341, u342, u343, u344, u345, u346, u347, u348, u349, u350, u351, u352, u353, u354, u355, u356, u357, u358, u359, u360, u361, u362, u363, u364, u365, u366, u367, u368, u369, u370, u371, u372, u373, u374, u375, u376, u377, u378, u379, u380, u381, u382, u383, u384, u385, u386, u387, u388, u389, u390, u391, u392, u393, u394, u395, u396, u397, u398, u399, u400, u401, u402, u403, u404, u405, u406, u407, u408, u409, u410, u411, u412, u413, u414, u415, u416, u417, u418, u419, u420, u421, u422, u423, u424, u425, u426, u427, u428, u429, u430, u431, u432, u433, u434, u435, u436, u437, u438, u439, u440, u441, u442, u443, u444, u445, u446], []⟩ W := by
  conv => arg 2; whnf
  dsimp only
  have hnt := ok.hnt
  have t1 : (d.nt : Int) ≤ 4096 := by omega
  have t0 : (0 : Int) ≤ (d.nt : Int) := by omega
  obtain ⟨i21, hi, hz0, hz1, hz2⟩ := info_parts info21
  obtain ⟨gn, eg⟩ : ∃ gn, gn = W.heap.size := ⟨_, rfl⟩
  go_upto_region 54 with (fail)
  go_cut [32] from 196 to 239 (fun x W' => x = .slice (some ⟨gn, 0, none⟩) d.nt d.nt ∧ Blk W' gn 21 (rowF (fun _ => .int .i32 0) d.nt) ∧ Below gn W W')
  case first =>
    go_wp2_with (at_make; refine wpList_make_full _ rfl _ _ 23 rfl 0 21 i21 _ 1 Yba.underlying23 hi hz0 hz1 .i64 .i64 _ _ d.nt rfl rfl rfl rfl (by rw [hz2]; omega) (by unfold maxLen; omega) (Nat.zero_le _) ?_; intro w1 hown1 hg1)
    go_meet
    case rel =>
      rw [← eg] at hown1 ⊢
      exact ⟨rfl, made_row rfl hown1, Below.grown (Below.refl _ W) hg1 (by omega) (by simp)⟩
  case rest =>
  obtain ⟨rfl, hb1, hB1⟩ := hcut
  have EG := hide eg
  have lga : ga < gn := by rw [eg]; exact ha.lt
  clear eg hi hz0 hz1 hz2
  go_upto_block 8 with (fail)
  go_cut [33, 34, 35, 36] from 198 to 239 (fun c _ _ _ W' => c = .int .i64 (d.total : Int) ∧ Blk W' gn 21 (rowF (fun t => .int .i32 (d.node t)) d.nt) ∧ Below gn W W')
  case first =>
    go_wp2_with fail
    go_loopw [33, 34] (fun c x W' => ∃ (t : Nat) (nd : Nat → Int), c = .int .i64 (cntTo d t : Int) ∧ x = .int .i64 (t : Int) ∧ t ≤ d.nt ∧ Blk W' gn 21 (rowF (fun t => .int .i32 (nd t)) d.nt) ∧ (∀ s, s < t → nd s = d.node s) ∧ Below gn W W') (fun _ x _ => d.nt - (intOf x).toNat)
    case atStart => exact ⟨0, fun _ => 0, rfl, rfl, by omega, hb1, by omega, hB1⟩
    case round =>
      clear hb1 hB1
      obtain ⟨t, nd, rfl, rfl, ht, hb, hx, hB⟩ := hrel
      have HX := hide hx
      clear hx
      have k0 : (0 : Int) ≤ (t : Int) := by omega
      by_cases hlt : t < d.nt
      · have k1 : (t : Int) < (d.nt : Int) := by omega
        have k2 : (t : Int) ≤ 4096 := by omega
        have q0 := (ha.below hB lga).at hlt
        have cn := hb.at hlt
        have fn := hb.frozen
        have hcl := cntTo_le d t
        by_cases hl : d.left t = true
        · have e : d.node t = -1 := by rw [Dat.node, if_pos hl]
          have e2 : cntTo d (t + 1) = cntTo d t := by rw [cntTo_succ, if_pos hl]; rfl
          rw [hl] at q0
          have HE := hide e
          have HE2 := hide e2
          clear e e2 hl
          go_wp2
          refine ⟨⟨t + 1, putI nd t (-1), by rw [HE2.out], by go_num, by omega, by rw [← putV_int]; exact hb.put _ _, fun s hs => ?_, hB.setCell (Nat.le_refl _) _⟩, by simp [intOf]; omega⟩
          unfold putI
          by_cases e : s = t
          · subst e; rw [if_pos rfl, HE.out]
          · rw [if_neg e]; exact HX.out s (by omega)
        · have hl' : d.left t = false := by simpa using hl
          have e : d.node t = (d.rank t : Int) := by rw [Dat.node, if_neg hl]
          have e2 : cntTo d (t + 1) = cntTo d t + 1 := by rw [cntTo_succ, if_neg hl]
          rw [hl'] at q0
          have HE := hide e
          have HE2 := hide e2
          clear e e2 hl hl'
          go_upto_block 10 with (fail)
          go_cut [35, 36] from 210 to 232 (fun r _ W' => r = .int .i64 (d.rank t : Int) ∧ Same wr W')
          case first =>
            clear q0 cn fn
            go_wp2_with fail
            go_loopw [35, 36] (fun r x W' => ∃ u : Nat, r = .int .i64 (lessTo d t u : Int) ∧ x = .int .i64 (u : Int) ∧ u ≤ d.nt ∧ Same wr W') (fun _ x _ => d.nt - (intOf x).toNat)
            case atStart => exact ⟨0, rfl, rfl, by omega, Same.refl _⟩
            case round =>
              obtain ⟨u, rfl, rfl, hu, hSm⟩ := hrel
              have u0 : (0 : Int) ≤ (u : Int) := by omega
              have hll := lessTo_le d t u
              have l0 : (0 : Int) ≤ (lessTo d t u : Int) := by omega
              by_cases hul : u < d.nt
              · have u1 : (u : Int) < (d.nt : Int) := by omega
                have u2 : (u : Int) ≤ 4096 := by omega
                have l1 : (lessTo d t u : Int) ≤ 4096 := by omega
                rename World => W5
                have hL := (h.lies.below (W' := wr) (by rw [← EG.out]; exact hB))
                have x0 : W5.cell? ⟨ga, u, none⟩ = some (.bool (d.left u)) := by rw [hSm.cell]; exact (ha.below hB lga).at hul
                have x1 : W5.cell? ⟨gv, u, none⟩ = some (.int .i32 (d.V u)) := by rw [hSm.cell]; exact hL.tv u hul
                have x2 : W5.cell? ⟨gv, t, none⟩ = some (.int .i32 (d.V t)) := by rw [hSm.cell]; exact hL.tv t hlt
                clear hL
                by_cases hl : d.left u = true
                · have e : lessTo d t (u + 1) = lessTo d t u := by rw [lessTo_succ, if_neg (by simp [hl])]; rfl
                  rw [hl] at x0
                  have HEU := hide e
                  clear e hl
                  go_upto_region 65 with (fail)
                  go_quiet (fail)
                  go_wp2
                  exact ⟨⟨u + 1, by rw [HEU.out], by go_num, by omega, hSm.drewN _⟩, by simp [intOf]; omega⟩
                · have hl' : d.left u = false := by simpa using hl
                  rw [hl'] at x0
                  by_cases hv : d.V u < d.V t
                  · have e : lessTo d t (u + 1) = lessTo d t u + 1 := by rw [lessTo_succ, if_pos ⟨hl', hv⟩]
                    have hv' : decide (d.V u < d.V t) = true := by simpa using hv
                    have HEU := hide e
                    clear e hl hl' hv
                    go_upto_region 65 with (fail)
                    go_quiet (fail)
                    go_wp2
                    exact ⟨⟨u + 1, by rw [HEU.out]; go_num, by go_num, by omega, hSm.drewN _⟩, by simp [intOf]; omega⟩
                  · have e : lessTo d t (u + 1) = lessTo d t u := by rw [lessTo_succ, if_neg (by simp [hv])]; rfl
                    have hv' : decide (d.V u < d.V t) = false := by simpa using hv
                    have HEU := hide e
                    clear e hl hl' hv
                    go_upto_region 65 with (fail)
                    go_quiet (fail)
                    go_wp2
                    exact ⟨⟨u + 1, by rw [HEU.out], by go_num, by omega, hSm.drewN _⟩, by simp [intOf]; omega⟩
              · have u1 : ¬ (u : Int) < (d.nt : Int) := by omega
                obtain rfl : u = d.nt := by omega
                go_wp2
                go_meet
                case rel => exact ⟨rfl, hSm⟩
          case rest =>
          obtain ⟨rfl, hSm⟩ := hcut
          have hrl := rank_le d t
          have rw1 : IntKind.i32.wrap (d.rank t : Int) = (d.rank t : Int) := wrap32_small _ (by omega) (by omega)
          have cl0 : (0 : Int) ≤ (cntTo d t : Int) := by omega
          have cl1 : (cntTo d t : Int) ≤ 4096 := by omega
          clear q0 cn fn
          have hb2 := hSm.blk hb
          have cn := hb2.at hlt
          have fn := hb2.frozen
          go_wp2
          refine ⟨⟨t + 1, putI nd t (d.rank t : Int), by rw [HE2.out]; go_num, by go_num, by omega, by rw [← putV_int]; exact hb2.put _ _, fun s hs => ?_, Below.setCell (hB.trans (hSm.below _)) (Nat.le_refl _) _⟩, by simp [intOf]; omega⟩
          unfold putI
          by_cases e : s = t
          · subst e; rw [if_pos rfl, HE.out]
          · rw [if_neg e]; exact HX.out s (by omega)
      · have k1 : ¬ (t : Int) < (d.nt : Int) := by omega
        obtain rfl : t = d.nt := by omega
        go_wp2
        go_meet
        case rel => exact ⟨rfl, by rw [rowF_congr (f' := fun t => .int .i32 (nd t)) (fun t ht => by rw [HX.out t ht])]; exact hb, hB⟩
  case rest =>
  clear hb1 hB1
  obtain ⟨rfl, hb, hB⟩ := hcut
  have hb' : Below W.heap.size W wc := by rw [← EG.out]; exact hB
  rename_i hK
  exact hK _ _ (part_69 ok (h.below hb') (hR.below hb') hS hb)
end Go.Proofs.Ybulkfhsm.A
