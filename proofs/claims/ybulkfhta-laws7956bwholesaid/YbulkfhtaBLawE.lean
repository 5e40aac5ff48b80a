/-
  The walk of the law B: the end.
-/
import Derived.Test.YbulkfhtaBLaw0
namespace Go.Proofs.Ybulkfhta.B
open Go.RowKit
attribute [local go_sem ↓] Go.wp_at_zero Go.wp_at_succ

theorem equal_same (n : Int) (W : World) : Calls Yba.prog 10 #[tv n, tv n] W fun e w' => e = .returned (.bool true) ∧ Below W.heap.size W w' := by
  have := equal_any n n W
  rw [show decide (n = n) = true by simp] at this
  exact this

set_option maxRecDepth 100000 in
set_option maxHeartbeats 16000000 in
theorem part_54 {w W : World} {L q0 q5 : Nat} {x : Ld} {a0 a5 : Option Addr} {xs : Nat → Int} {ga gw : Nat} {s : ByteArray} {t : Int} {u1 u2 u3 u4 u7 u8 u9 u10 u11 u12 u13 u14 u20 u21 u22 u23 u24 u27 u28 u29 u30 u31 u34 u35 u36 u37 u38 u39 u40 u41 u42 u43 u44 u45 u46 u47 u48 u49 u50 u51 u52 u53 u54 u55 u56 u57 u58 u59 u60 u61 u62 u63 u64 u65 u66 u67 u68 u69 u70 u71 u72 u73 u74 u75 u76 u77 u78 u79 u80 u81 u82 u83 u84 u85 u86 u87 u88 u89 u90 u91 u92 u93 u94 u95 u96 u97 u98 u99 u100 u101 u102 u103 u104 u105 u106 u107 u108 u109 u110 u111 u112 u113 u114 u115 u116 u117 u118 u119 u120 u121 u122 u123 u124 u125 u126 u127 u128 u129 u130 u131 u132 u133 u134 u135 u136 u137 u138 u139 u140 u141 u142 u143 u144 u145 u146 u147 u148 u149 u150 u151 u152 u153 u154 u155 u156 u157 u158 u159 u160 u161 u162 u163 u164 u165 u166 u167 u168 u169 u170 u171 u172 u173 u174 u175 u176 u177 u178 u179 u180 u181 u182 u183 u184 u185 u186 u187 u188 u189 u190 u191 u192 u193 u194 u195 u196 u197 u198 u199 u200 u201 u202 u203 u204 u205 u206 u207 u208 u209 u210 u211 u212 u213 u214 u215 u216 u217 u218 u219 u220 u221 u222 u223 u224 u225 u226 u227 u228 u229 u230 u231 u232 u233 u234 u235 u236 u237 u238 u239 u240 u241 u242 u243 u244 u245 u246 u247 u248 u249 u250 u251 u252 u253 u254 u255 u256 u257 u258 u259 u260 u261 u262 u263 u264 u265 u266 u267 u268 u269 u270 u271 u272 u273 u274 : Value} (ok : Ok x xs) (h : Env w W L x a0 a5 xs) (ha : TVar W ga t) (hw : TVar W gw t) :
    Code.wp Yba.prog (piece Yba.f4.body 54) (bodyPost Yba.prog Yba.f4 (Yes w)) ⟨#[.slice a0 x.n q0, u1, u2, u3, u4, .slice a5 x.m q5, .bool x.lv, u7, u8, u9, u10, u11, u12, u13, u14, .int .i64 x.sf, .int .i64 (x.nS : Int), .int .i64 (x.k : Int), .int .i64 x.d, .pointer (some ⟨L, 0, none⟩), u20, u21, u22, u23, u24, .pointer (some ⟨ga, 0, none⟩), .string s, u27, u28, u29, u30, u31, .pointer (some ⟨gw, 0, none⟩), .string s, u34, u35, u36, u37, u38, u39, u40, u41, u42, u43, u44, u45, u46, u47, u48, u49, u50, u51, u52, u53, u54, u55, u56, u57, u58, u59, u60, u61, u62, u63, u64, u65, u66, u67, u68, u69, u70, u71, u72, u73, u74, u75, u76, u77, u78, u79, u80, u81, u82, u83, u84, u85, u86, u87, u88, u89, u90, u91, u92, u93, u94, u95, u96, u97, u98, u99, u100, u101, u102, u103, u104, u105, u106, u107, u108, u109, u110, u111, u112, u113, u114, u115, u116, u117, u118, u119, u120, u121, u122, u123, u124, u125, u126, u127, u128, u129, u130, u131, u132, u133, u134, u135, u136, u137, u138, u139, u140, u141, u142, u143, u144, u145, u146, u147, u148, u149, u150, u151, u152, u153, u154, u155, u156, u157, u158, u159, u160, u161, u162, u163, u164, u165, u166, u167, u168, u169, u170, u171, u172, u173, u174, u175, u176, u177, u178, u179, u180, u181, u182, u183, u184, u185, u186, u187, u188, u189, u190, u191, u192, u193, u194, u195, u196, u197, u198, u199, u200, u201, u202, u203, u204, u205, u206, u207, u208, u209, u210, u211, u212, u213, u214, u215, u216, u217, u218, u219, u220, u221, u222, u223, u224, u225, u226, u227, u228, u229, u230, u231, u232, u233, u234, u235, u236, u237, u238, u239, u240, u241, u242, u243, u244, u245, u246, u247, u248, u249, u250, u251, u252, u253, u254, u255, u256, u257, u258, u259, u260, u261, u262, u263, u264, u265, u266, u267, u268, u269, u270, u271, u272, u273, u274], []⟩ W := by
  conv => arg 2; whnf
  have hsum := ok.sum
  have n0 : (0 : Int) ≤ (x.n : Int) := by omega
  have n1 : (x.n : Int) ≤ 65536 := by omega
  have m0 : (0 : Int) ≤ (x.m : Int) := by omega
  have m1 : (x.m : Int) ≤ 65536 := by omega
  have b0 := ha.cell (i := 0) rfl
  have b1 := ha.cell (i := 1) rfl
  have b2 := ha.cell (i := 2) rfl
  have d0 := hw.cell (i := 0) rfl
  have d1 := hw.cell (i := 1) rfl
  have d2 := hw.cell (i := 2) rfl
  have HE := hide (equal_same t W)
  unfold tv at HE
  go_wp2_with fail
  refine HE.out.mono ?_
  rintro e w1 ⟨rfl, hb1⟩
  have h1 := h.below hb1
  clear b0 b1 b2 d0 d1 d2 HE hb1 h ha hw
  go_wp2_with fail
  refine (hlen_any h1.inp.hp).mono ?_
  rintro e w2 ⟨rfl, ew⟩
  obtain rfl := ew.symm
  clear ew
  obtain ⟨ra, rc, erh⟩ := slice_form h1.inp.rows
  have j11 := h1.inp.c11
  rw [erh] at j11
  have HRH := hide erh
  clear erh
  go_wp2_with fail
  clear j11
  go_loopw [36, 232] (fun _ y W' => ∃ j : Nat, y = .int .i64 (j : Int) ∧ j ≤ x.m ∧ Env w W' L x a0 a5 xs) (fun _ y _ => x.m - (intOf y).toNat)
  case atStart => exact ⟨0, rfl, by omega, h1⟩
  case round =>
    obtain ⟨j, rfl, hj, hE⟩ := hrel
    have j0 : (0 : Int) ≤ (j : Int) := by omega
    by_cases hlt : j < x.m
    · have j1 : (j : Int) < (x.m : Int) := by omega
      have j2 : (j : Int) ≤ 65536 := by omega
      obtain ⟨g, cap, egc, hg⟩ := row_form hE.inp.rows (by omega)
      rw [HRH.out] at egc
      cases egc
      have rr : x.rh = .slice (some ⟨g, 0, none⟩) x.m rc := HRH.out
      have rows := hE.inp.rows
      rw [rr] at rows
      have c1 : wr.cell? ⟨g, j * 4 + 1, none⟩ = some (.int .u64 (x.R j % 1000000000)) := (World.ownsRow.cellAt rows _ (by omega)).trans (rowR_get x.R (i := j) (k := 1) hlt (by omega))
      have c2 : wr.cell? ⟨g, j * 4 + 2, none⟩ = some (.int .i64 (x.R j / 1000000000)) := (World.ownsRow.cellAt rows _ (by omega)).trans (rowR_get x.R (i := j) (k := 2) hlt (by omega))
      have c3 : wr.cell? ⟨g, j * 4 + 3, none⟩ = some (.pointer none) := (World.ownsRow.cellAt rows _ (by omega)).trans (rowR_get x.R (i := j) (k := 3) hlt (by omega))
      have j11 := hE.inp.c11
      rw [rr] at j11
      clear rr rows
      obtain ⟨b, off, rfl⟩ := hE.g5.form (by omega)
      have c4 := hE.g5.cell b off rfl j hlt
      have HB := hide (fun W => bat_any (W := W) (n := x.R j) (ok.wy j hlt).1 (ok.wy j hlt).2)
      have HE := hide (fun W => equal_same (x.R j) W)
      unfold tv at HB HE
      have LC : ∀ W', Below wr.heap.size wr W' → W'.cell? ⟨g, j * 4 + 1, none⟩ = some (.int .u64 (x.R j % 1000000000)) ∧ W'.cell? ⟨g, j * 4 + 2, none⟩ = some (.int .i64 (x.R j / 1000000000)) ∧ W'.cell? ⟨g, j * 4 + 3, none⟩ = some (.pointer none) := fun W' hb => ⟨cell_below hb c1, cell_below hb c2, cell_below hb c3⟩
      have HLC := hide LC
      clear LC
      go_upto_region 61 with (fail)
      go_cut [249] from 235 to 249 (fun c W' => c = .bool false ∧ Env w W' L x a0 (some ⟨b, off, none⟩) xs)
      case first =>
        go_region_with (first | (go_at_call 7; refine (HB.out _).mono ?_; rintro e w3 ⟨rfl, hb3⟩; have hb3' := below_undrew hb3; have hE3 := hE.below hb3'; have k11 := hE3.inp.c11; rw [show x.rh = .slice (some ⟨g, 0, none⟩) x.m rc from HRH.out] at k11; obtain ⟨k1, k2, k3⟩ := HLC.out _ hb3') | (go_at_call 10; refine (HE.out _).mono ?_; rintro e w4 ⟨rfl, hb4⟩; have hE4 := hE3.below hb4))
        all_goals
          go_wp2
          go_meet
          case rel => exact ⟨rfl, hE4⟩
      case rest =>
      obtain ⟨rfl, hE5⟩ := hcut
      clear hE c1 c2 c3 c4 j11
      go_wp2
      exact ⟨⟨j + 1, by go_num, by omega, hE5⟩, by simp [intOf]; omega⟩
    · have j1 : ¬ (j : Int) < (x.m : Int) := by omega
      have i12 := hE.inp.c12
      have i13 := hE.inp.c13
      have i14 := hE.inp.c14
      have i15 := hE.inp.c15
      have i16 := hE.inp.c16
      have hf : wf64 x.sf := ⟨by have := ok.small.f0; omega, by have := ok.small.f1; omega⟩
      have HB := hide (fun W => bat_any (W := W) (n := x.sf) hf.1 hf.2)
      have HE := hide (fun W => equal_same x.sf W)
      unfold tv at HB HE
      clear hf
      go_upto_region 64 with (fail)
      go_cut [274] from 251 to 274 (fun c W' => c = .bool false ∧ Env w W' L x a0 a5 xs)
      case first =>
        go_region_with (first | (go_at_call 7; refine (HB.out _).mono ?_; rintro e w3 ⟨rfl, hb3⟩; have hb3' := below_undrew hb3; have hE3 := hE.below hb3'; have k12 := hE3.inp.c12; have k13 := hE3.inp.c13; have k14 := hE3.inp.c14; have k15 := hE3.inp.c15; have k16 := hE3.inp.c16) | (go_at_call 10; refine (HE.out _).mono ?_; rintro e w4 ⟨rfl, hb4⟩; have hE4 := hE3.below hb4; have k15 := hE4.inp.c15; have k16 := hE4.inp.c16))
        all_goals
          go_wp2
          go_meet
          case rel => exact ⟨rfl, hE4⟩
      case rest =>
      obtain ⟨rfl, hE5⟩ := hcut
      clear hE i12 i13 i14 i15 i16
      go_wp2
      go_ret
      exact ⟨rfl, hE5.bel⟩
end Go.Proofs.Ybulkfhta.B
