/-
  The walk of the law A: the history drawn.
-/
import Derived.Test.YbulkfhsmALawA
namespace Go.Proofs.Ybulkfhsm.A
open Go.RowKit
attribute [local go_sem ↓] Go.wp_at_zero Go.wp_at_succ

/-- The drawn operations. -/
structure Drawn (W : World) (a : Option Addr) (N : Nat) (k t x : Nat → Int) : Prop where
  form : 0 < N → ∃ b off, a = some ⟨b, off, none⟩
  ck : ∀ b off, a = some ⟨b, off, none⟩ → ∀ i, i < N → W.cell? ⟨b, off + i * 3, none⟩ = some (.int .u8 (k i))
  ct : ∀ b off, a = some ⟨b, off, none⟩ → ∀ i, i < N → W.cell? ⟨b, off + i * 3 + 1, none⟩ = some (.int .u8 (t i))
  cx : ∀ b off, a = some ⟨b, off, none⟩ → ∀ i, i < N → W.cell? ⟨b, off + i * 3 + 2, none⟩ = some (.int .u8 (x i))
  hk : ∀ i, i < N → 0 ≤ k i ∧ k i ≤ 255
  ht : ∀ i, i < N → 0 ≤ t i ∧ t i ≤ 255
  hx : ∀ i, i < N → 0 ≤ x i ∧ x i ≤ 255

theorem Drawn.below {W W' : World} {a : Option Addr} {N : Nat} {k t x : Nat → Int} (h : Drawn W a N k t x) (hb : Below W.heap.size W W') : Drawn W' a N k t x :=
  ⟨h.form, fun b off e i hi => cell_below hb (h.ck b off e i hi), fun b off e i hi => cell_below hb (h.ct b off e i hi), fun b off e i hi => cell_below hb (h.cx b off e i hi), h.hk, h.ht, h.hx⟩

theorem row_step {l : List Value} {j N : Nat} (hl : l.length = N * 3) (hj : j < N) (a b c : Value) (i : Nat) {q : Nat} (hq : q < 3) :
    (((l.set (j * 3) a).set (j * 3 + 1) b).set (j * 3 + 2) c)[i * 3 + q]? = if i = j then [a, b, c][q]? else l[i * 3 + q]? := by
  by_cases e : i = j
  · subst e
    rw [if_pos rfl]
    match q, hq with
    | 0, _ => simp [List.getElem?_set]; omega
    | 1, _ => simp [List.getElem?_set]; omega
    | 2, _ => simp [List.getElem?_set]; omega
  · rw [if_neg e, List.getElem?_set_ne (by omega), List.getElem?_set_ne (by omega), List.getElem?_set_ne (by omega)]

def kindOf (k : Nat → Int) (i : Nat) : Int := k i % 10
def objOf (k x : Nat → Int) (n : Int) (i : Nat) : Int := if kindOf k i ≠ 1 ∧ kindOf k i ≠ 2 ∧ x i % 2 = 1 then -1 else x i % n

set_option maxRecDepth 100000 in
set_option maxHeartbeats 16000000 in
theorem part_19 {w W : World} {N nt oc gv cv : Nat} {oa : Option Addr} {n8 : Int} {k t x V : Nat → Int} {u1 u3 u4 u5 u6 u8 u9 u10 u11 u12 u13 u14 u15 u16 u17 u18 u19 u20 u21 u22 u23 u24 u25 u26 u27 u28 u29 u30 u31 u32 u33 u34 u35 u36 u37 u38 u39 u40 u41 u42 u43 u44 u45 u46 u47 u48 u49 u50 u51 u52 u53 u54 u55 u56 u57 u58 u59 u60 u61 u62 u63 u64 u65 u66 u67 u68 u69 u70 u71 u72 u73 u74 u75 u76 u77 u78 u79 u80 u81 u82 u83 u84 u85 u86 u87 u88 u89 u90 u91 u92 u93 u94 u95 u96 u97 u98 u99 u100 u101 u102 u103 u104 u105 u106 u107 u108 u109 u110 u111 u112 u113 u114 u115 u116 u117 u118 u119 u120 u121 u122 u123 u124 u125 u126 u127 u128 u129 u130 u131 u132 u133 u134 u135 u136 u137 u138 u139 u140 u141 u142 u143 u144 u145 u146 u147 u148 u149 u150 u151 u152 u153 u154 u155 u156 u157 u158 u159 u160 u161 u162 u163 u164 u165 u166 u167 u168 u169 u170 u171 u172 u173 u174 u175 u176 u177 u178 u179 u180 u181 u182 u183 u184 u185 u186 u187 u188 u189 u190 u191 u192 u193 u194 u195 u196 u197 u198 u199 u200 u201 u202 u203 u204 u205 u206 u207 u208 u209 u210 u211 u212 u213 u214 u215 u216 u217 u218 u219 u220 u221 u222 u223 u224 u225 u226 u227 u228 u229 u230 u231 u232 u233 u234 u235 u236 u237 u238 u239 u240 u241 u242 u243 u244 u245 u246 u247 u248 u249 u250 u251 u252 u253 u254 u255 u256 u257 u258 u259 u260 u261 u262 u263 u264 u265 u266 u267 u268 u269 u270 u271 u272 u273 u274 u275 u276 u277 u278 u279 u280 u281 u282 u283 u284 u285 u286 u287 u288 u289 u290 u291 u292 u293 u294 u295 u296 u297 u298 u299 u300 u301 u302 u303 u304 u305 u306 u307 u308 u309 u310 u311 u312 u313 u314 u315 u316 u317 u318 u319 u320 u321 u322 u323 u324 u325 u326 u327 u328 u329 u330 u331 u332 u333 u334 u335 u336 u337 u338 u339 u340 u341 u342 u343 u344 u345 u346 u347 u348 u349 u350 u351 u352 u353 u354 u355 u356 u357 u358 u359 u360 u361 u362 u363 u364 u365 u366 u367 u368 u369 u370 u371 u372 u373 u374 u375 u376 u377 u378 u379 u380 u381 u382 u383 u384 u385 u386 u387 u388 u389 u390 u391 u392 u393 u394 u395 u396 u397 u398 u399 u400 u401 u402 u403 u404 u405 u406 u407 u408 u409 u410 u411 u412 u413 u414 u415 u416 u417 u418 u419 u420 u421 u422 u423 u424 u425 u426 u427 u428 u429 u430 u431 u432 u433 u434 u435 u436 u437 u438 u439 u440 u441 u442 u443 u444 u445 u446 : Value} (hD : Drawn W oa N k t x) (hN : N ≤ 4096) (hn8 : 0 ≤ n8 ∧ n8 ≤ 255) (hnt : nt ≤ 4096) (hpos : 0 < nt) (inj : ∀ s t, s < nt → t < nt → V s = V t → s = t)
    (hV : ∀ t, t < nt → W.cell? ⟨gv, t, none⟩ = some (.int .i32 (V t))) (hB : Below w.heap.size w W) :
    Code.wp Yba.prog (piece Yba.f3.body 19) (bodyPost Yba.prog Yba.f3 (Yes w)) ⟨#[.slice oa N oc, u1, .int .u8 n8, u3, u4, u5, u6, .slice (some ⟨gv, 0, none⟩) nt cv, u8, u9, u10, u11, u12, u13, u14, u15, u16, u17, u18, u19, u20, u21, u22, u23, u24, u25, u26, u27, u28, u29, u30, u31, u32, u33, u34, u35, u36, u37, u38, u39, u40, u41, u42, u43, u44, u45, u46, u47, u48, u49, u50, u51, u52, u53, u54, u55, u56, u57, u58, u59, u60, u61, u62, u63, u64, u65, u66, u67, u68, u69, u70, u71, u72, u73, u74, u75, u76, u77, u78, u79, u80, u81, u82, u83, u84, u85, u86, u87, u88, u89, u90, u91, u92, u93, u94, u95, u96, u97, u98, u99, u100, u101, u102, u103, u104, u105, u106, u107, u108, u109, u110, u111, u112, u113, u114, u115, u116, u117, u118, u119, u120, u121, u122, u123, u124, u125, u126, u127, u128, u129, u130, u131, u132, u133, u134, u135, u136, u137, u138, u139, u140, u141, u142, u143, u144, u145, u146, u147, u148, u149, u150, u151, u152, u153, u154, u155, u156, u157, u158, u159, u160, u161, u162, u163, u164, u165, u166, u167, u168, u169, u170, u171, u172, u173, u174, u175, u176, u177, u178, u179, u180, u181, u182, u183, u184, u185, u186, u187, u188, u189, u190, u191, u192, u193, u194, u195, u196, u197, u198, u199, u200, u201, u202, u203, u204, u205, u206, u207, u208, u209, u210, u211, u212, u213, u214, u215, u216, u217, u218, u219, u220, u221, u222, u223, u224, u225, u226, u227, u228, u229, u230, u231, u232, u233, u234, u235, u236, u237, u238, u239, u240, u241, u242, u243, u244, u245, u246, u247, u248, u249, u250, u251, u252, u253, u254, u255, u256, u257, u258, u259, u260, u261, u262, u263, u264, u265, u266, u267, u268, u269, u270, u271, u272, u273, u274, u275, u276, u277, u278, u279, u280, u281, u282, u283, u284, u285, u286, u287, u288, u289, u290, u291, u292, u293, u294, u295, u296, u297, u298, u299, u300, u301, u302, u303, u304, u305, u306, u307, u308, u309, u310, u311, u312, u313, u314, u315, u316, u317, u318, u319, u320, u321, u322, u323, u324, u325, u326, u327, u328, u329, u330, u331, u332, u333, u334, u335, u336, u337, u338, u339, u340, u341, u342, u343, u344, u345, u346, u347, u348, u349, u350, u351, u352, u353, u354, u355, u356, u357, u358, u359, u360, u361, u362, u363, u364, u365, u366, u367, u368, u369, u370, u371, u372, u373, u374, u375, u376, u377, u378, u379, u380, u381, u382, u383, u384, u385, u386, u387, u388, u389, u390, u391, u392, u393, u394, u395, u396, u397, u398, u399, u400, u401, u402, u403, u404, u405, u406, u407, u408, u409, u410, u411, u412, u413, u414, u415, u416, u417, u418, u419, u420, u421, u422, u423, u424, u425, u426, u427, u428, u429, u430, u431, u432, u433, u434, u435, u436, u437, u438, u439, u440, u441, u442, u443, u444, u445, u446], []⟩ W := by
  have HINJ := hide inj
  have HVV := hide hV
  clear inj hV
  conv => arg 2; whnf
  dsimp only
  have n1 : (N : Int) ≤ 4096 := by omega
  have n0 : (0 : Int) ≤ (N : Int) := by omega
  have t1 : (nt : Int) ≤ 4096 := by omega
  have t0 : (0 : Int) < (nt : Int) := by omega
  obtain ⟨a0, a1⟩ := hn8
  obtain ⟨i32, hi, hz0, hz1, hz2⟩ := info_parts info32
  obtain ⟨i21, ji, jz0, jz1, jz2⟩ := info_parts info21
  obtain ⟨ob, eob⟩ : ∃ ob : Nat, (ob : Int) = n8 % 9 + 1 := ⟨(n8 % 9).toNat + 1, by omega⟩
  have ob1 : ob ≤ 9 := by omega
  have ob0 : 0 < ob := by omega
  go_upto_region 20 with (fail)
  go_cut [14] from 87 to 101 (fun o W' => o = .int .i64 (ob : Int) ∧ W' = W)
  case first =>
    go_wp2
    go_meet
    case rel => exact ⟨by rw [eob], rfl⟩
  case rest =>
  obtain ⟨rfl, ew⟩ := hcut
  obtain rfl := ew.symm
  clear eob a0 a1
  obtain ⟨gh, egh⟩ : ∃ gh, gh = W.heap.size := ⟨_, rfl⟩
  go_upto_region 21 with (fail)
  go_cut [15] from 91 to 101 (fun v W' => v = .slice (some ⟨gh, 0, none⟩) N N ∧ (∃ l, Blk W' gh 32 l ∧ l.length = N * 3) ∧ Below gh W W')
  case first =>
    go_wp2_with (at_make; refine wpList_make_full _ rfl _ _ 27 rfl 0 32 i32 _ 3 Yba.underlying27 hi hz0 hz1 .i64 .i64 _ _ N rfl rfl rfl rfl (by rw [hz2]; omega) (by unfold maxLen; omega) (Nat.zero_le _) ?_; intro w1 hown1 hg1)
    go_meet
    case rel =>
      rw [← egh] at hown1 ⊢
      exact ⟨rfl, ⟨_, full_row hown1, hown1.1⟩, Below.grown (Below.refl _ W) hg1 (by omega) (by simp)⟩
  case rest =>
  clear hi hz0 hz1 hz2
  rename World => W1
  obtain ⟨rfl, ⟨l1, hl1, ll1⟩, hB1⟩ := hcut
  have EGH := hide egh
  clear egh
  obtain ⟨go, ego⟩ : ∃ go, go = W1.heap.size := ⟨_, rfl⟩
  have hho : gh < go := by rw [ego]; exact hl1.lt
  go_upto_region 22 with (fail)
  go_cut [16] from 91 to 101 (fun v W' => v = .slice (some ⟨go, 0, none⟩) N N ∧ Blk W' go 21 (rowF (fun _ => .int .i32 0) N) ∧ Blk W' gh 32 l1 ∧ Below gh W W')
  case first =>
    go_wp2_with (at_make; refine wpList_make_full _ rfl _ _ 23 rfl 0 21 i21 _ 1 Yba.underlying23 ji jz0 jz1 .i64 .i64 _ _ N rfl rfl rfl rfl (by rw [jz2]; omega) (by unfold maxLen; omega) (Nat.zero_le _) ?_; intro w1 hown1 hg1)
    go_meet
    case rel =>
      rw [← ego] at hown1 ⊢
      exact ⟨rfl, made_row rfl hown1, hl1.kept hg1 (by simp), Below.grown hB1 hg1 (by omega) (by simp)⟩
  case rest =>
  clear hl1 hB1 ego
  rename World => W2
  obtain ⟨rfl, ho2, hl2, hB2⟩ := hcut
  obtain ⟨gt, egt⟩ : ∃ gt, gt = W2.heap.size := ⟨_, rfl⟩
  have hot : go < gt := by rw [egt]; exact ho2.lt
  go_upto_region 23 with (fail)
  go_cut [17] from 91 to 101 (fun v W' => v = .slice (some ⟨gt, 0, none⟩) N N ∧ Blk W' gt 21 (rowF (fun _ => .int .i32 0) N) ∧ Blk W' go 21 (rowF (fun _ => .int .i32 0) N) ∧ Blk W' gh 32 l1 ∧ Below gh W W')
  case first =>
    go_wp2_with (at_make; refine wpList_make_full _ rfl _ _ 23 rfl 0 21 i21 _ 1 Yba.underlying23 ji jz0 jz1 .i64 .i64 _ _ N rfl rfl rfl rfl (by rw [jz2]; omega) (by unfold maxLen; omega) (Nat.zero_le _) ?_; intro w1 hown1 hg1)
    go_meet
    case rel =>
      rw [← egt] at hown1 ⊢
      exact ⟨rfl, made_row rfl hown1, ho2.kept hg1 (by simp), hl2.kept hg1 (by simp), Below.grown hB2 hg1 (by omega) (by simp)⟩
  case rest =>
  clear ho2 hl2 hB2 egt ji jz0 jz1 jz2
  obtain ⟨rfl, ht3, ho3, hl3, hB3⟩ := hcut
  go_upto_block 4 with (fail)
  go_cut [18, 19, 20, 21, 22, 23] from 102 to 157 (fun _ _ _ _ _ _ W' => ∃ (l : List Value) (O : Nat → ByteArray), Blk W' gh 32 l ∧ (∀ i, i < N → ∀ q, q < 3 → l[i * 3 + q]? = [Value.int .u8 (kindOf k i), .int .i32 (V (t i % nt).toNat), .string (O i)][q]?) ∧ Blk W' go 21 (rowF (fun i => .int .i32 (objOf k x (ob : Int) i)) N) ∧ Blk W' gt 21 (rowF (fun i => .int .i32 (t i % nt)) N) ∧ Below gh W W')
  case first =>
    go_wp2_with fail
    go_loopw [102] (fun y W' => ∃ (j : Nat) (l : List Value) (O : Nat → ByteArray) (fo ft : Nat → Int), y = .int .i64 (j : Int) ∧ j ≤ N ∧ Blk W' gh 32 l ∧ l.length = N * 3 ∧ (∀ i, i < j → ∀ q, q < 3 → l[i * 3 + q]? = [Value.int .u8 (kindOf k i), .int .i32 (V (t i % nt).toNat), .string (O i)][q]?) ∧ Blk W' go 21 (rowF (fun i => .int .i32 (fo i)) N) ∧ (∀ i, i < j → fo i = objOf k x (ob : Int) i) ∧ Blk W' gt 21 (rowF (fun i => .int .i32 (ft i)) N) ∧ (∀ i, i < j → ft i = t i % nt) ∧ Below gh W W') (fun y _ => N - (intOf y).toNat)
    case atStart => exact ⟨0, l1, fun _ => ByteArray.empty, fun _ => 0, fun _ => 0, rfl, by omega, hl3, ll1, by omega, ho3, by omega, ht3, by omega, hB3⟩
    case round =>
      clear ht3 ho3 hl3 hB3
      obtain ⟨j, l, O, fo, ft, rfl, hj, hl, hll, hlf, ho, hof, ht, htf, hBl⟩ := hrel
      have HLF := hide hlf
      have HOF := hide hof
      have HTF := hide htf
      clear hlf hof htf
      have j0 : (0 : Int) ≤ (j : Int) := by omega
      by_cases hlt : j < N
      · have j1 : (j : Int) < (N : Int) := by omega
        obtain ⟨b, off, rfl⟩ := hD.form (by omega)
        have hD2 := hD.below (W' := wr) (by rw [← EGH.out]; exact hBl)
        have q0 := hD2.ck b off rfl j hlt
        have q1 := hD2.ct b off rfl j hlt
        have q2 := hD2.cx b off rfl j hlt
        obtain ⟨e0, e1⟩ := hD2.hk j hlt
        obtain ⟨e2, e3⟩ := hD2.ht j hlt
        obtain ⟨e4, e5⟩ := hD2.hx j hlt
        clear hD2
        obtain ⟨tn, htn⟩ : ∃ tn : Nat, (tn : Int) = t j % (nt : Int) := ⟨(t j % (nt : Int)).toNat, by have := Int.emod_nonneg (t j) (show (nt : Int) ≠ 0 by omega); omega⟩
        have htl : (tn : Int) < (nt : Int) := by rw [htn]; exact Int.emod_lt_of_pos _ t0
        have htl' : tn < nt := by omega
        have x0 : 0 ≤ x j % (ob : Int) := Int.emod_nonneg _ (by omega)
        have x1 : x j % (ob : Int) < (ob : Int) := Int.emod_lt_of_pos _ (by omega)
        have hw32 : wrap32 (x j % (ob : Int)) = x j % (ob : Int) := by unfold wrap32; omega
        have hok : kindOf k j = k j % 10 := rfl
        have hoo : objOf k x (ob : Int) j = if kindOf k j ≠ 1 ∧ kindOf k j ≠ 2 ∧ x j % 2 = 1 then -1 else x j % (ob : Int) := rfl
        have hgv := (World.cell?_of_block (hBl.block gv (by rw [EGH.out]; exact World.block_lt_of_cell? _ _ (HVV.out tn htl')))).trans (HVV.out tn htl')
        have HTN := hide htn
        have HOK := hide hok
        have HOO := hide hoo
        clear hok hoo
        have bl := hl.alloc (.cells #[.int .u8 (k j), .int .u8 (t j), .int .u8 (x j)] 29)
        have bo := ho.alloc (.cells #[.int .u8 (k j), .int .u8 (t j), .int .u8 (x j)] 29)
        have bt := ht.alloc (.cells #[.int .u8 (k j), .int .u8 (t j), .int .u8 (x j)] 29)
        have bB := hBl.alloc (B := gh) (by have := hl.lt; omega) (.cells #[.int .u8 (k j), .int .u8 (t j), .int .u8 (x j)] 29)
        have bx : (wr.alloc (.cells #[.int .u8 (k j), .int .u8 (t j), .int .u8 (x j)] 29)).cell? ⟨wr.heap.size, 2, none⟩ = some (.int .u8 (x j)) := (Blk.new wr 29 [.int .u8 (k j), .int .u8 (t j), .int .u8 (x j)]).cell rfl
        have bv : (wr.alloc (.cells #[.int .u8 (k j), .int .u8 (t j), .int .u8 (x j)] 29)).cell? ⟨gv, tn, none⟩ = some (.int .i32 (V tn)) := by rw [World.cell?_alloc_old _ _ _ (Nat.ne_of_lt (World.block_lt_of_cell? wr ⟨gv, tn, none⟩ hgv))]; exact hgv
        clear htn
        go_upto_region 30 with (fail)
        rw [← HTN.out]
        clear q0 q1 q2 hw32 hl ho ht hBl hgv
        generalize (wr.alloc (.cells #[.int .u8 (k j), .int .u8 (t j), .int .u8 (x j)] 29)) = W5 at bl bo bt bB bx bv ⊢
        generalize wr.heap.size = N0 at bx ⊢
        have hkd0 : 0 ≤ kindOf k j := by unfold kindOf; omega
        rw [← HOK.out]
        generalize kindOf k j = kd at HOO HOK hkd0 ⊢
        generalize x j % (ob : Int) = xo at HOO x0 x1 ⊢
        go_cut [132] from 121 to 157 (fun b W' => b = .bool (decide (kd ≠ 1 ∧ kd ≠ 2 ∧ x j % 2 = 1)) ∧ W' = W5)
        case first =>
          by_cases h1 : kd = 1
          · subst h1
            go_wp2
            go_meet
            case rel => exact ⟨by simp, rfl⟩
          · have h1' : (kd == 1) = false := by simpa using h1
            have h1n : (kd != 1) = true := by simpa using h1
            by_cases h2 : kd = 2
            · subst h2
              go_wp2
              go_meet
              case rel => exact ⟨by simp, rfl⟩
            · have h2' : (kd == 2) = false := by simpa using h2
              have h2n : (kd != 2) = true := by simpa using h2
              have H1 := hide h1
              have H2 := hide h2
              clear h1 h2
              by_cases h3 : x j % 2 = 1
              · have h3' : (x j % 2 == 1) = true := by simpa using h3
                have H3 := hide h3
                clear h3
                go_wp2
                go_meet
                case rel => exact ⟨by simp [H1.out, H2.out, H3.out], rfl⟩
              · have h3' : (x j % 2 == 1) = false := by simpa using h3
                have H3 := hide h3
                clear h3
                go_wp2
                go_meet
                case rel => exact ⟨by simp [H1.out, H2.out, H3.out], rfl⟩
        case rest =>
        obtain ⟨rfl, ew⟩ := hcut
        obtain rfl := ew.symm
        clear bx
        go_upto_if 132 with (fail)
        go_cut [22] from 121 to 157 (fun v W' => v = .int .i32 (objOf k x (ob : Int) j) ∧ W' = W5)
        case first =>
          by_cases hc : kd ≠ 1 ∧ kd ≠ 2 ∧ x j % 2 = 1
          · rw [show decide (kd ≠ 1 ∧ kd ≠ 2 ∧ x j % 2 = 1) = true by simpa using hc]
            have HC := hide hc
            clear hc
            go_wp2
            go_meet
            case rel => exact ⟨by rw [HOO.out, if_pos HC.out], rfl⟩
          · rw [show decide (kd ≠ 1 ∧ kd ≠ 2 ∧ x j % 2 = 1) = false by simpa using hc]
            have HC := hide hc
            clear hc
            go_wp2
            go_meet
            case rel => exact ⟨by rw [HOO.out, if_neg HC.out], rfl⟩
        case rest =>
        obtain ⟨rfl, ew⟩ := hcut
        obtain rfl := ew.symm
        have z1 : objOf k x (ob : Int) j ≤ 9 := by rw [HOO.out]; split <;> omega
        have z0 : -1 ≤ objOf k x (ob : Int) j := by rw [HOO.out]; split <;> omega
        obtain ⟨z, ez⟩ : ∃ z, z = objOf k x (ob : Int) j := ⟨_, rfl⟩
        rw [← ez] at z0 z1 ⊢
        have EZ := hide ez
        clear ez HOO x0 x1
        go_upto_if 134 with (fail)
        go_cut [23] from 121 to 157 (fun v W' => (∃ s, v = .string s) ∧ W' = W5)
        case first =>
          by_cases hz : 0 ≤ z
          · go_wp2
            go_meet
            case rel => exact ⟨⟨_, rfl⟩, rfl⟩
          · go_wp2
            go_meet
            case rel => exact ⟨⟨_, rfl⟩, rfl⟩
        case rest =>
        obtain ⟨⟨nm, rfl⟩, ew⟩ := hcut
        obtain rfl := ew.symm
        have some_of : ∀ i, i < N * 3 → ∃ u, l[i]? = some u := fun i hi => ⟨l[i]'(by rw [hll]; exact hi), List.getElem?_eq_getElem _⟩
        obtain ⟨u0, c0⟩ := some_of (j * 3) (by omega)
        obtain ⟨u1', c1⟩ := some_of (j * 3 + 1) (by omega)
        obtain ⟨u2', c2⟩ := some_of (j * 3 + 2) (by omega)
        have b0 := bl.cell c0
        have b1 := bl.cell c1
        have b2 := bl.cell c2
        have fb := bl.frozen
        clear c0 c1 c2 some_of
        go_upto_region 35 with (fail)
        go_cut [] from 121 to 157 (fun W' => Blk W' gh 32 (((l.set (j * 3) (.int .u8 kd)).set (j * 3 + 1) (.int .i32 (V tn))).set (j * 3 + 2) (.string nm)) ∧ Blk W' go 21 (rowF (fun i => .int .i32 (fo i)) N) ∧ Blk W' gt 21 (rowF (fun i => .int .i32 (ft i)) N) ∧ Below gh W W')
        case first =>
          go_wp2
          go_meet
          case rel => exact ⟨((bl.store _ _).store _ _).store _ _, ((bo.other (by simp; omega) _).other (by simp; omega) _).other (by simp; omega) _, ((bt.other (by simp; omega) _).other (by simp; omega) _).other (by simp; omega) _, ((bB.setCell (Nat.le_refl _) _).setCell (Nat.le_refl _) _).setCell (Nat.le_refl _) _⟩
        case rest =>
        clear bl bo bt bB b0 b1 b2 fb bv
        obtain ⟨bl, bo, bt, bB⟩ := hcut
        have co := bo.at hlt
        have ct := bt.at hlt
        have fo1 := bo.frozen
        have ft1 := bt.frozen
        have ne : gt ≠ go := by omega
        have tw : IntKind.i32.wrap (tn : Int) = (tn : Int) := wrap32_small _ (by omega) (by omega)
        go_wp2
        refine ⟨⟨j + 1, _, fun i => if i = j then nm else O i, putI fo j z, putI ft j (tn : Int), by go_num, by omega, (bl.other (by simp; omega) _).other (by simp; omega) _, by simp [hll], fun i hi q hq => ?_, ?_, fun i hi => ?_, ?_, fun i hi => ?_, (bB.setCell (by simp; omega) _).setCell (by simp; omega) _⟩, by simp [intOf]; omega⟩
        · rw [row_step hll hlt _ _ _ i hq]
          by_cases e : i = j
          · subst e
            rw [if_pos rfl]
            simp only
            rw [show kindOf k i = kd from HOK.out.symm, ← HTN.out]
            simp
          · rw [if_neg e]
            simp only [if_neg e]
            exact HLF.out i (by omega) q hq
        · rw [← putV_int]; exact (bo.put _ _).other (by simp; omega) _
        · unfold putI
          by_cases e : i = j
          · subst e; rw [if_pos rfl, EZ.out]
          · rw [if_neg e]; exact HOF.out i (by omega)
        · rw [← putV_int]; exact (bt.other (by simp; omega) _).put _ _
        · unfold putI
          by_cases e : i = j
          · subst e; rw [if_pos rfl, HTN.out]
          · rw [if_neg e]; exact HTF.out i (by omega)
      · have j1 : ¬ (j : Int) < (N : Int) := by omega
        obtain rfl : j = N := by omega
        go_wp2
        go_meet
        case rel => exact ⟨l, O, hl, HLF.out, by rw [rowF_congr (f' := fun i => .int .i32 (fo i)) (fun i hi => by rw [HOF.out i hi])]; exact ho, by rw [rowF_congr (f' := fun i => .int .i32 (ft i)) (fun i hi => by rw [HTF.out i hi])]; exact ht, hBl⟩
  case rest =>
  clear ht3 ho3 hl3 hB3
  obtain ⟨l, O, bl, hlf, bo, bt, bB⟩ := hcut
  have hb' : Below W.heap.size W wc := by rw [← EGH.out]; exact bB
  have tpos : ∀ i, 0 ≤ t i % (nt : Int) ∧ t i % (nt : Int) < (nt : Int) := fun i => ⟨Int.emod_nonneg _ (by omega), Int.emod_lt_of_pos _ t0⟩
  have ok : Dat.Ok ⟨N, nt, ob, kindOf k, objOf k x (ob : Int), fun i => (t i % (nt : Int)).toNat, V, O⟩ := by
    refine ⟨hN, hnt, hpos, ob1, fun i _ => ?_, HINJ.out, fun i _ => ?_, fun i _ hk => ?_⟩
    · have := tpos i; show (t i % (nt : Int)).toNat < nt; omega
    · show objOf k x (ob : Int) i < (ob : Int)
      have := Int.emod_lt_of_pos (x i) (show (0 : Int) < (ob : Int) by omega)
      unfold objOf; split <;> omega
    · show 0 ≤ objOf k x (ob : Int) i
      have := Int.emod_nonneg (x i) (show (ob : Int) ≠ 0 by omega)
      have hk' : kindOf k i = 1 ∨ kindOf k i = 2 := hk
      unfold objOf
      rw [if_neg (by omega)]
      exact this
  have hL : Lies wc ⟨N, nt, ob, kindOf k, objOf k x (ob : Int), fun i => (t i % (nt : Int)).toNat, V, O⟩ gh go gt gv := by
    refine ⟨fun i hi => ?_, fun i hi => ?_, fun i hi => ?_, fun i hi => bo.at hi, fun i hi => ?_, fun s hs => cell_below hb' (HVV.out s hs)⟩
    · exact bl.cell ((hlf i hi 0 (by omega)).trans rfl)
    · exact bl.cell ((hlf i hi 1 (by omega)).trans rfl)
    · exact bl.cell ((hlf i hi 2 (by omega)).trans rfl)
    · have := bt.at hi
      show wc.cell? ⟨gt, i, none⟩ = some (.int .i32 (((t i % (nt : Int)).toNat : Nat) : Int))
      rw [Int.toNat_of_nonneg (tpos i).1]
      exact this
  rename_i hK
  exact hK _ _ (part_39 (d := ⟨N, nt, ob, kindOf k, objOf k x (ob : Int), fun i => (t i % (nt : Int)).toNat, V, O⟩) ok hL (hB.trans (hb'.mono hB.size)))
end Go.Proofs.Ybulkfhsm.A
