/-
  The walk of the law A: the challenge is as it was.
-/
import Derived.Test.YbulkfhtoFmtALawE
namespace Go.Proofs.YbulkfhtoFmt.A
open Go.RowKit Go.Extern.Stop Go.Stop Go.Extern
attribute [local go_sem ↓] Go.wp_at_zero Go.wp_at_succ

set_option maxRecDepth 100000 in
set_option maxHeartbeats 16000000 in
theorem part_62 {w W : World} {D : Dat} {p : Pl} {q0 : Qn} {qs : Nat → Qn} {c11 c13 : Nat} {u0 u1 u2 u3 u5 u8 u9 u10 u11 u12 u14 u15 u16 u17 u18 u20 u21 u22 u23 u24 u25 u26 u27 u28 u29 u30 u31 u32 u33 u34 u35 u36 u37 u38 u39 u40 u41 u42 u43 u44 u45 u46 u47 u48 u49 u50 u51 u52 u53 u54 u55 u56 u57 u58 u59 u60 u61 u62 u63 u64 u65 u66 u67 u68 u69 u70 u71 u72 u73 u74 u75 u76 u77 u78 u79 u80 u81 u82 u83 u84 u85 u86 u87 u88 u89 u90 u91 u92 u93 u94 u95 u96 u97 u98 u99 u100 u101 u102 u103 u104 u105 u106 u107 u108 u109 u110 u111 u112 u113 u114 u115 u116 u117 u118 u119 u120 u121 u122 u123 u124 u125 u126 u127 u128 u129 u130 u131 u132 u133 u134 u135 u136 u137 u138 u139 u140 u141 u142 u143 u144 u145 u146 u147 u148 u149 u150 u151 u152 u153 u154 u155 u156 u157 u158 u159 u160 u161 u162 u163 u164 u165 u166 u167 u168 u169 u170 u171 u172 u173 u174 u175 u176 u177 u178 u179 u180 u181 u182 u183 u184 u185 u186 u187 u188 u189 u190 u191 u192 u193 u194 u195 u196 u197 u198 u199 u200 u201 u202 u203 u204 u205 u206 u207 u208 u209 u210 u211 u212 u213 u214 u215 u216 u217 u218 u219 u220 u221 u222 u223 u224 u225 u226 u227 u228 u229 u230 u231 u232 u233 u234 u235 u236 u237 u238 u239 u240 u241 u242 u243 u244 u245 u246 u247 u248 u249 u250 u251 u252 u253 u254 u255 u256 u257 u258 u259 u260 u261 u262 u263 u264 u265 u266 u267 u268 u269 u270 u271 u272 u273 u274 u275 u276 u277 u278 u279 u280 u281 u282 u283 u284 u285 u286 u287 u288 u289 u290 u291 u292 u293 u294 u295 u296 u297 u298 u299 u300 u301 u302 u303 u304 u305 u306 u307 u308 u309 u310 u311 u312 u313 u314 u315 u316 u317 u318 u319 u320 u321 : Value} (h : Env w W D p q0 qs c11 c13) :
    Code.wp Ybaf.prog (piece Ybaf.f3.body 62) (bodyPost Ybaf.prog Ybaf.f3 (Yes w)) ⟨#[u0, u1, u2, u3, .bool D.ho, u5, .int .i64 D.ok, .slice D.va D.m D.vcap, u8, u9, u10, u11, u12, .pointer (some ⟨c13, 0, none⟩), u14, u15, u16, u17, u18, .pointer (some ⟨p.n, 0, none⟩), u20, u21, u22, u23, u24, u25, u26, u27, u28, u29, u30, u31, u32, u33, u34, u35, u36, u37, u38, u39, u40, u41, u42, u43, u44, u45, u46, u47, u48, u49, u50, u51, u52, u53, u54, u55, u56, u57, u58, u59, u60, u61, u62, u63, u64, u65, u66, u67, u68, u69, u70, u71, u72, u73, u74, u75, u76, u77, u78, u79, u80, u81, u82, u83, u84, u85, u86, u87, u88, u89, u90, u91, u92, u93, u94, u95, u96, u97, u98, u99, u100, u101, u102, u103, u104, u105, u106, u107, u108, u109, u110, u111, u112, u113, u114, u115, u116, u117, u118, u119, u120, u121, u122, u123, u124, u125, u126, u127, u128, u129, u130, u131, u132, u133, u134, u135, u136, u137, u138, u139, u140, u141, u142, u143, u144, u145, u146, u147, u148, u149, u150, u151, u152, u153, u154, u155, u156, u157, u158, u159, u160, u161, u162, u163, u164, u165, u166, u167, u168, u169, u170, u171, u172, u173, u174, u175, u176, u177, u178, u179, u180, u181, u182, u183, u184, u185, u186, u187, u188, u189, u190, u191, u192, u193, u194, u195, u196, u197, u198, u199, u200, u201, u202, u203, u204, u205, u206, u207, u208, u209, u210, u211, u212, u213, u214, u215, u216, u217, u218, u219, u220, u221, u222, u223, u224, u225, u226, u227, u228, u229, u230, u231, u232, u233, u234, u235, u236, u237, u238, u239, u240, u241, u242, u243, u244, u245, u246, u247, u248, u249, u250, u251, u252, u253, u254, u255, u256, u257, u258, u259, u260, u261, u262, u263, u264, u265, u266, u267, u268, u269, u270, u271, u272, u273, u274, u275, u276, u277, u278, u279, u280, u281, u282, u283, u284, u285, u286, u287, u288, u289, u290, u291, u292, u293, u294, u295, u296, u297, u298, u299, u300, u301, u302, u303, u304, u305, u306, u307, u308, u309, u310, u311, u312, u313, u314, u315, u316, u317, u318, u319, u320, u321], []⟩ W := by
  conv => arg 2; whnf; dsimp only
  obtain ⟨B, eB⟩ : ∃ B, B = W.heap.size := ⟨_, rfl⟩
  have KE : ∀ W', Below B W W' → Env w W' D p q0 qs c11 c13 := fun W' hb => h.below (by rw [← eB]; exact hb)
  have HK := hide KE
  have EB := hide eB
  clear KE eB
  go_upto_if 251 with (fail)
  go_cut [4] from 251 to 284 (fun _ W' => Below B W W')
  case first =>
    cases eh : D.ho with
    | true =>
      have eo : (D.nod q0 qs).out = some (q0, D.ok) := by unfold Dat.nod; rw [eh]; rfl
      have hz := h.good.z0
      obtain ⟨_, hq, hxq, _, _⟩ := h.node.out q0 D.ok eo
      have HSM := hide ((h.cp0 eh).same (W := W.drew) hq (hxq.grown (grown_drew (grown_refl _ _))) (h.good.x0.grown (grown_drew (grown_refl _ _))))
      have HSS := hide (show ∀ w', Below B W w' → w'.cell? ⟨p.n, 1, none⟩ = some (.pointer (some ⟨p.oo, 0, none⟩)) ∧ w'.rangeAt p.oo 0 q0.cells ∧ w'.cell? ⟨p.oo, 65, none⟩ = some (.int .i64 D.ok) ∧ w'.rangeAt c13 0 D.z0.cells from fun w' hb => by
        have hE := HK.out _ hb
        obtain ⟨hb', hq', _⟩ := hE.node.out q0 D.ok eo
        have cn := hE.node.nd.cell (i := 1) rfl
        have ev : oVal (D.nod q0 qs) p = .pointer (some ⟨p.oo, 0, none⟩) := by unfold oVal; rw [eo]
        rw [ev] at cn
        obtain ⟨s1, s2⟩ := chal_S hb' hq'
        exact ⟨cn, s1, s2, hE.b13.all⟩)
      clear hxq h
      go_upto_region 63 with (fail)
      refine wp_region_noPanic ?_
      refine wp_region_held_drew (S := fun w' => w'.cell? ⟨p.n, 1, none⟩ = some (.pointer (some ⟨p.oo, 0, none⟩)) ∧ w'.rangeAt p.oo 0 q0.cells ∧ w'.cell? ⟨p.oo, 65, none⟩ = some (.int .i64 D.ok) ∧ w'.rangeAt c13 0 D.z0.cells) (by kernel_rfl) (HSS.out _ (Below.refl B W).drew) (fun hS0 => ?_)
      refine wpAnyH_take (i := 0) (oi := { dst := some 252, op := Op.move (Operand.tmp 19), type := 29, pos := "zz_law_s7957a.go:171", after := #[], guard := none }) (v := .pointer (some ⟨p.n, 0, none⟩)) rfl (by kernel_rfl) (by kernel_rfl) (by kernel_rfl) (fun _ _ _ h => h) (Or.inl ⟨by rfl, ?_⟩) hS0 ?_
      · intro w hSw; go_simp
      simp only [Act.put, List.setIfInBounds_toArray, List.set_cons_zero, List.set_cons_succ]
      refine wpAnyH_take (i := 1) (oi := { dst := some 253, op := Op.nilCheck (Operand.tmp 252), type := 0, pos := "zz_law_s7957a.go:171", after := #[{ on := 0, ground := Ground.data }], guard := none }) (v := .pointer (some ⟨p.n, 0, none⟩)) rfl (by kernel_rfl) (by kernel_rfl) (by kernel_rfl) (fun _ _ _ h => h) (Or.inl ⟨by rfl, ?_⟩) hS0 ?_
      · intro w hSw; go_simp
      simp only [Act.put, List.setIfInBounds_toArray, List.set_cons_zero, List.set_cons_succ]
      refine wpAnyH_take (i := 2) (oi := { dst := some 254, op := Op.fieldAddr 34 (Operand.tmp 253) 1, type := 0, pos := "zz_law_s7957a.go:171", after := #[{ on := 1, ground := Ground.data }], guard := none }) (v := .pointer (some ⟨p.n, 1, none⟩)) rfl (by kernel_rfl) (by kernel_rfl) (by kernel_rfl) (fun _ _ _ h => h) (Or.inl ⟨by rfl, ?_⟩) hS0 ?_
      · intro w hSw; go_simp
      simp only [Act.put, List.setIfInBounds_toArray, List.set_cons_zero, List.set_cons_succ]
      refine wpAnyH_take (i := 3) (oi := { dst := some 255, op := Op.load 31 (Operand.tmp 254), type := 31, pos := "zz_law_s7957a.go:171", after := #[{ on := 2, ground := Ground.data }], guard := none }) (v := .pointer (some ⟨p.oo, 0, none⟩)) rfl (by kernel_rfl) (by kernel_rfl) (by kernel_rfl) (fun _ _ _ h => h) (Or.inl ⟨by rfl, ?_⟩) hS0 ?_
      · intro w hSw; go_simp
      simp only [Act.put, List.setIfInBounds_toArray, List.set_cons_zero, List.set_cons_succ]
      refine wpAnyH_take (i := 4) (oi := { dst := some 256, op := Op.binOp BinOp.eql 31 (Operand.tmp 255) (Operand.const (Value.pointer none)) 31, type := 4, pos := "zz_law_s7957a.go:171", after := #[{ on := 3, ground := Ground.data }], guard := none }) (v := .bool false) rfl (by kernel_rfl) (by kernel_rfl) (by kernel_rfl) (fun _ _ _ h => h) (Or.inl ⟨by rfl, ?_⟩) hS0 ?_
      · intro w hSw; go_simp
      simp only [Act.put, List.setIfInBounds_toArray, List.set_cons_zero, List.set_cons_succ]
      refine wpAnyH_take (i := 5) (oi := { dst := some 257, op := Op.move (Operand.tmp 256), type := 4, pos := "zz_law_s7957a.go:171", after := #[{ on := 4, ground := Ground.data }], guard := none }) (v := .bool false) rfl (by kernel_rfl) (by kernel_rfl) (by kernel_rfl) (fun _ _ _ h => h) (Or.inl ⟨by rfl, ?_⟩) hS0 ?_
      · intro w hSw; go_simp
      simp only [Act.put, List.setIfInBounds_toArray, List.set_cons_zero, List.set_cons_succ]
      refine wpAnyH_take (i := 6) (oi := { dst := some 258, op := Op.move (Operand.tmp 19), type := 29, pos := "zz_law_s7957a.go:171", after := #[{ on := 5, ground := Ground.guard }], guard := some (5, false) }) (v := .pointer (some ⟨p.n, 0, none⟩)) rfl (by kernel_rfl) (by kernel_rfl) (by kernel_rfl) (fun _ _ _ h => h) (Or.inl ⟨by rfl, ?_⟩) hS0 ?_
      · intro w hSw; go_simp
      simp only [Act.put, List.setIfInBounds_toArray, List.set_cons_zero, List.set_cons_succ]
      refine wpAnyH_take (i := 7) (oi := { dst := some 259, op := Op.nilCheck (Operand.tmp 258), type := 0, pos := "zz_law_s7957a.go:171", after := #[{ on := 6, ground := Ground.data }, { on := 5, ground := Ground.guard }], guard := some (5, false) }) (v := .pointer (some ⟨p.n, 0, none⟩)) rfl (by kernel_rfl) (by kernel_rfl) (by kernel_rfl) (fun _ _ _ h => h) (Or.inl ⟨by rfl, ?_⟩) hS0 ?_
      · intro w hSw; go_simp
      simp only [Act.put, List.setIfInBounds_toArray, List.set_cons_zero, List.set_cons_succ]
      refine wpAnyH_take (i := 8) (oi := { dst := some 260, op := Op.fieldAddr 34 (Operand.tmp 259) 1, type := 0, pos := "zz_law_s7957a.go:171", after := #[{ on := 7, ground := Ground.data }, { on := 5, ground := Ground.guard }], guard := some (5, false) }) (v := .pointer (some ⟨p.n, 1, none⟩)) rfl (by kernel_rfl) (by kernel_rfl) (by kernel_rfl) (fun _ _ _ h => h) (Or.inl ⟨by rfl, ?_⟩) hS0 ?_
      · intro w hSw; go_simp
      simp only [Act.put, List.setIfInBounds_toArray, List.set_cons_zero, List.set_cons_succ]
      refine wpAnyH_take (i := 9) (oi := { dst := some 261, op := Op.load 31 (Operand.tmp 260), type := 31, pos := "zz_law_s7957a.go:171", after := #[{ on := 8, ground := Ground.data }, { on := 5, ground := Ground.guard }], guard := some (5, false) }) (v := .pointer (some ⟨p.oo, 0, none⟩)) rfl (by kernel_rfl) (by kernel_rfl) (by kernel_rfl) (fun _ _ _ h => h) (Or.inl ⟨by rfl, ?_⟩) hS0 ?_
      · intro w hSw; go_simp
      simp only [Act.put, List.setIfInBounds_toArray, List.set_cons_zero, List.set_cons_succ]
      refine wpAnyH_take (i := 10) (oi := { dst := some 262, op := Op.nilCheck (Operand.tmp 261), type := 0, pos := "zz_law_s7957a.go:171", after := #[{ on := 9, ground := Ground.data }, { on := 5, ground := Ground.guard }], guard := some (5, false) }) (v := .pointer (some ⟨p.oo, 0, none⟩)) rfl (by kernel_rfl) (by kernel_rfl) (by kernel_rfl) (fun _ _ _ h => h) (Or.inl ⟨by rfl, ?_⟩) hS0 ?_
      · intro w hSw; go_simp
      simp only [Act.put, List.setIfInBounds_toArray, List.set_cons_zero, List.set_cons_succ]
      refine wpAnyH_take (i := 11) (oi := { dst := some 263, op := Op.fieldAddr 39 (Operand.tmp 262) 1, type := 0, pos := "zz_law_s7957a.go:171", after := #[{ on := 10, ground := Ground.data }, { on := 5, ground := Ground.guard }], guard := some (5, false) }) (v := .pointer (some ⟨p.oo, 65, none⟩)) rfl (by kernel_rfl) (by kernel_rfl) (by kernel_rfl) (fun _ _ _ h => h) (Or.inl ⟨by rfl, ?_⟩) hS0 ?_
      · intro w hSw; go_simp
      simp only [Act.put, List.setIfInBounds_toArray, List.set_cons_zero, List.set_cons_succ]
      refine wpAnyH_take (i := 12) (oi := { dst := some 264, op := Op.load 3 (Operand.tmp 263), type := 3, pos := "zz_law_s7957a.go:171", after := #[{ on := 11, ground := Ground.data }, { on := 5, ground := Ground.guard }], guard := some (5, false) }) (v := .int .i64 D.ok) rfl (by kernel_rfl) (by kernel_rfl) (by kernel_rfl) (fun _ _ _ h => h) (Or.inl ⟨by rfl, ?_⟩) hS0 ?_
      · intro w hSw; go_simp
      simp only [Act.put, List.setIfInBounds_toArray, List.set_cons_zero, List.set_cons_succ]
      refine wpAnyH_take (i := 13) (oi := { dst := some 265, op := Op.move (Operand.tmp 6), type := 3, pos := "zz_law_s7957a.go:171", after := #[{ on := 5, ground := Ground.guard }], guard := some (5, false) }) (v := .int .i64 D.ok) rfl (by kernel_rfl) (by kernel_rfl) (by kernel_rfl) (fun _ _ _ h => h) (Or.inl ⟨by rfl, ?_⟩) hS0 ?_
      · intro w hSw; go_simp
      simp only [Act.put, List.setIfInBounds_toArray, List.set_cons_zero, List.set_cons_succ]
      refine wpAnyH_take (i := 14) (oi := { dst := some 266, op := Op.binOp BinOp.neq 3 (Operand.tmp 264) (Operand.tmp 265) 3, type := 4, pos := "zz_law_s7957a.go:171", after := #[{ on := 12, ground := Ground.data }, { on := 13, ground := Ground.data }, { on := 5, ground := Ground.guard }], guard := some (5, false) }) (v := .bool false) rfl (by kernel_rfl) (by kernel_rfl) (by kernel_rfl) (fun _ _ _ h => h) (Or.inl ⟨by rfl, ?_⟩) hS0 ?_
      · intro w hSw; go_simp
      simp only [Act.put, List.setIfInBounds_toArray, List.set_cons_zero, List.set_cons_succ]
      refine wpAnyH_take (i := 15) (oi := { dst := some 267, op := Op.pick (Operand.tmp 257) (Operand.const (Value.bool true)) (Operand.tmp 266), type := 4, pos := "zz_law_s7957a.go:171", after := #[{ on := 5, ground := Ground.data }, { on := 14, ground := Ground.data }], guard := none }) (v := .bool false) rfl (by kernel_rfl) (by kernel_rfl) (by kernel_rfl) (fun _ _ _ h => h) (Or.inl ⟨by rfl, ?_⟩) hS0 ?_
      · intro w hSw; go_simp
      simp only [Act.put, List.setIfInBounds_toArray, List.set_cons_zero, List.set_cons_succ]
      refine wpAnyH_take (i := 16) (oi := { dst := some 268, op := Op.move (Operand.tmp 267), type := 4, pos := "zz_law_s7957a.go:171", after := #[{ on := 15, ground := Ground.data }, { on := 5, ground := Ground.chain }], guard := none }) (v := .bool false) rfl (by kernel_rfl) (by kernel_rfl) (by kernel_rfl) (fun _ _ _ h => h) (Or.inl ⟨by rfl, ?_⟩) hS0 ?_
      · intro w hSw; go_simp
      simp only [Act.put, List.setIfInBounds_toArray, List.set_cons_zero, List.set_cons_succ]
      refine wpAnyH_take (i := 17) (oi := { dst := some 269, op := Op.move (Operand.tmp 19), type := 29, pos := "zz_law_s7957a.go:171", after := #[{ on := 16, ground := Ground.guard }], guard := some (16, false) }) (v := .pointer (some ⟨p.n, 0, none⟩)) rfl (by kernel_rfl) (by kernel_rfl) (by kernel_rfl) (fun _ _ _ h => h) (Or.inl ⟨by rfl, ?_⟩) hS0 ?_
      · intro w hSw; go_simp
      simp only [Act.put, List.setIfInBounds_toArray, List.set_cons_zero, List.set_cons_succ]
      refine wpAnyH_take (i := 18) (oi := { dst := some 270, op := Op.nilCheck (Operand.tmp 269), type := 0, pos := "zz_law_s7957a.go:171", after := #[{ on := 17, ground := Ground.data }, { on := 16, ground := Ground.guard }], guard := some (16, false) }) (v := .pointer (some ⟨p.n, 0, none⟩)) rfl (by kernel_rfl) (by kernel_rfl) (by kernel_rfl) (fun _ _ _ h => h) (Or.inl ⟨by rfl, ?_⟩) hS0 ?_
      · intro w hSw; go_simp
      simp only [Act.put, List.setIfInBounds_toArray, List.set_cons_zero, List.set_cons_succ]
      refine wpAnyH_take (i := 19) (oi := { dst := some 271, op := Op.fieldAddr 34 (Operand.tmp 270) 1, type := 0, pos := "zz_law_s7957a.go:171", after := #[{ on := 18, ground := Ground.data }, { on := 16, ground := Ground.guard }], guard := some (16, false) }) (v := .pointer (some ⟨p.n, 1, none⟩)) rfl (by kernel_rfl) (by kernel_rfl) (by kernel_rfl) (fun _ _ _ h => h) (Or.inl ⟨by rfl, ?_⟩) hS0 ?_
      · intro w hSw; go_simp
      simp only [Act.put, List.setIfInBounds_toArray, List.set_cons_zero, List.set_cons_succ]
      refine wpAnyH_take (i := 20) (oi := { dst := some 272, op := Op.load 31 (Operand.tmp 271), type := 31, pos := "zz_law_s7957a.go:171", after := #[{ on := 19, ground := Ground.data }, { on := 16, ground := Ground.guard }], guard := some (16, false) }) (v := .pointer (some ⟨p.oo, 0, none⟩)) rfl (by kernel_rfl) (by kernel_rfl) (by kernel_rfl) (fun _ _ _ h => h) (Or.inl ⟨by rfl, ?_⟩) hS0 ?_
      · intro w hSw; go_simp
      simp only [Act.put, List.setIfInBounds_toArray, List.set_cons_zero, List.set_cons_succ]
      refine wpAnyH_take (i := 21) (oi := { dst := some 273, op := Op.nilCheck (Operand.tmp 272), type := 0, pos := "zz_law_s7957a.go:171", after := #[{ on := 20, ground := Ground.data }, { on := 16, ground := Ground.guard }], guard := some (16, false) }) (v := .pointer (some ⟨p.oo, 0, none⟩)) rfl (by kernel_rfl) (by kernel_rfl) (by kernel_rfl) (fun _ _ _ h => h) (Or.inl ⟨by rfl, ?_⟩) hS0 ?_
      · intro w hSw; go_simp
      simp only [Act.put, List.setIfInBounds_toArray, List.set_cons_zero, List.set_cons_succ]
      refine wpAnyH_take (i := 22) (oi := { dst := some 274, op := Op.fieldAddr 39 (Operand.tmp 273) 0, type := 0, pos := "zz_law_s7957a.go:171", after := #[{ on := 21, ground := Ground.data }, { on := 16, ground := Ground.guard }], guard := some (16, false) }) (v := .pointer (some ⟨p.oo, 0, none⟩)) rfl (by kernel_rfl) (by kernel_rfl) (by kernel_rfl) (fun _ _ _ h => h) (Or.inl ⟨by rfl, ?_⟩) hS0 ?_
      · intro w hSw; go_simp
      simp only [Act.put, List.setIfInBounds_toArray, List.set_cons_zero, List.set_cons_succ]
      refine wpAnyH_take (i := 23) (oi := { dst := some 275, op := Op.load 36 (Operand.tmp 274), type := 36, pos := "zz_law_s7957a.go:171", after := #[{ on := 22, ground := Ground.data }, { on := 16, ground := Ground.guard }], guard := some (16, false) }) (v := .agg q0.cells.toArray) rfl (by kernel_rfl) (by kernel_rfl) (by kernel_rfl) (fun _ _ _ h => h) (yieldsIf_load_mid (by rfl) _ _ rfl p.oo 0 rfl q0.cells _ (fun w h => h.2.1) Ybaf.underlying36 rfl (by rw [hq.size]; exact info36)) hS0 ?_
      simp only [Act.put, List.setIfInBounds_toArray, List.set_cons_zero, List.set_cons_succ]
      refine wpAnyH_take (i := 24) (oi := { dst := some 276, op := Op.load 27 (Operand.tmp 13), type := 27, pos := "zz_law_s7957a.go:171", after := #[{ on := 16, ground := Ground.guard }], guard := some (16, false) }) (v := .agg D.z0.cells.toArray) rfl (by kernel_rfl) (by kernel_rfl) (by kernel_rfl) (fun _ _ _ h => h) (yieldsIf_load_mid (by rfl) _ _ rfl c13 0 rfl D.z0.cells _ (fun w h => h.2.2.2) Ybaf.underlying27 rfl (by rw [hz.size]; exact info27)) hS0 ?_
      simp only [Act.put, List.setIfInBounds_toArray, List.set_cons_zero, List.set_cons_succ]
      refine wpAnyH_ready (rs := [25]) (by kernel_rfl) (by simp) ?_
      refine AllReadyH.cons (o := { dst := some 277, op := Op.call { callee := Callee.value (Operand.func 11), args := #[Operand.tmp 275, Operand.tmp 276], argTypes := #[36, 27] }, type := 4, pos := "zz_law_s7957a.go:171", after := #[{ on := 23, ground := Ground.data }, { on := 24, ground := Ground.data }, { on := 16, ground := Ground.chain }, { on := 16, ground := Ground.guard }], guard := some (16, false) }) rfl (fun K hK => ?_) AllReadyH.nil
      go_wp2_with fail
      refine HSM.out.mono ?_
      rintro e w5 ⟨rfl, hb5⟩
      have bel5 : Below B W w5 := (Below.refl B W).drew.trans (hb5.mono (by show B ≤ W.heap.size; rw [EB.out]; exact Nat.le_refl _))
      refine hK.out _ _ (HSS.out _ bel5) (fun hS1 => ?_)
      clear hK K
      refine wpAnyH_take (i := 26) (oi := { dst := some 278, op := Op.unOp UnOp.not 4 (Operand.tmp 277), type := 4, pos := "zz_law_s7957a.go:171", after := #[{ on := 25, ground := Ground.data }, { on := 16, ground := Ground.guard }], guard := some (16, false) }) (v := .bool false) rfl (by kernel_rfl) (by kernel_rfl) (by kernel_rfl) (fun _ _ _ h => h) (Or.inl ⟨by rfl, ?_⟩) hS1 ?_
      · intro w hSw; go_simp
      simp only [Act.put, List.setIfInBounds_toArray, List.set_cons_zero, List.set_cons_succ]
      refine wpAnyH_take (i := 27) (oi := { dst := some 279, op := Op.pick (Operand.tmp 268) (Operand.const (Value.bool true)) (Operand.tmp 278), type := 4, pos := "zz_law_s7957a.go:171", after := #[{ on := 16, ground := Ground.data }, { on := 26, ground := Ground.data }], guard := none }) (v := .bool false) rfl (by kernel_rfl) (by kernel_rfl) (by kernel_rfl) (fun _ _ _ h => h) (Or.inl ⟨by rfl, ?_⟩) hS1 ?_
      · intro w hSw; go_simp
      simp only [Act.put, List.setIfInBounds_toArray, List.set_cons_zero, List.set_cons_succ]
      refine wpAnyH_done (by kernel_rfl) ?_ _
      refine NoPanic.normal ?_
      go_wp2
      go_meet
      case rel => exact bel5
    | false =>
      have eo : (D.nod q0 qs).out = none := by unfold Dat.nod; rw [eh]; rfl
      have cn := h.node.nd.cell (i := 1) rfl
      have ev : oVal (D.nod q0 qs) p = .pointer none := by unfold oVal; rw [eo]
      rw [ev] at cn
      clear h
      go_wp2
      go_meet
      case rel => exact Below.refl _ _
  case rest =>
  rename_i hK
  exact hK _ _ (part_67 (HK.out _ hcut))
end Go.Proofs.YbulkfhtoFmt.A
