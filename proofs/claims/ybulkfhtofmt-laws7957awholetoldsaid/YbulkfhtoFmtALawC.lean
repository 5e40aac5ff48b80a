/-
  The walk of the law A: the context is as it was.
-/
import Derived.Test.YbulkfhtoFmtALawD
namespace Go.Proofs.YbulkfhtoFmt.A
open Go.RowKit Go.Extern.Stop Go.Stop Go.Extern
attribute [local go_sem ↓] Go.wp_at_zero Go.wp_at_succ

theorem yieldsIf_neq22 {ops : Array Oper} {S : World → Prop} {op : Oper} {a : Act} (hw : Region.wanted op (yielded ops a.tmps) = true) (x y : Operand) (t : TypeId) (ho : op.op = .binOp .neq 22 x y t) (l : List UInt8) (hl : l.length = 16)
    (hx : a.eval x = .agg (bc l).toArray) (hy : a.eval y = .agg (bc l).toArray) : YieldsIf Ybaf.prog ops S op (.bool false) a :=
  .inl ⟨hw, fun w _ => by
    unfold execOp
    simp only [ho, hx, hy, Sem.run_bind, eqg22 l, neq22 l hl, Result.andThen_ok, Sem.run_pure]⟩

set_option maxRecDepth 100000 in
set_option maxHeartbeats 16000000 in
theorem part_57 {w W : World} {D : Dat} {p : Pl} {q0 : Qn} {qs : Nat → Qn} {c11 c13 : Nat} {u0 u1 u3 u5 u8 u9 u10 u12 u14 u15 u16 u17 u18 u20 u21 u22 u23 u24 u25 u26 u27 u28 u29 u30 u31 u32 u33 u34 u35 u36 u37 u38 u39 u40 u41 u42 u43 u44 u45 u46 u47 u48 u49 u50 u51 u52 u53 u54 u55 u56 u57 u58 u59 u60 u61 u62 u63 u64 u65 u66 u67 u68 u69 u70 u71 u72 u73 u74 u75 u76 u77 u78 u79 u80 u81 u82 u83 u84 u85 u86 u87 u88 u89 u90 u91 u92 u93 u94 u95 u96 u97 u98 u99 u100 u101 u102 u103 u104 u105 u106 u107 u108 u109 u110 u111 u112 u113 u114 u115 u116 u117 u118 u119 u120 u121 u122 u123 u124 u125 u126 u127 u128 u129 u130 u131 u132 u133 u134 u135 u136 u137 u138 u139 u140 u141 u142 u143 u144 u145 u146 u147 u148 u149 u150 u151 u152 u153 u154 u155 u156 u157 u158 u159 u160 u161 u162 u163 u164 u165 u166 u167 u168 u169 u170 u171 u172 u173 u174 u175 u176 u177 u178 u179 u180 u181 u182 u183 u184 u185 u186 u187 u188 u189 u190 u191 u192 u193 u194 u195 u196 u197 u198 u199 u200 u201 u202 u203 u204 u205 u206 u207 u208 u209 u210 u211 u212 u213 u214 u215 u216 u217 u218 u219 u220 u221 u222 u223 u224 u225 u226 u227 u228 u229 u230 u231 u232 u233 u234 u235 u236 u237 u238 u239 u240 u241 u242 u243 u244 u245 u246 u247 u248 u249 u250 u251 u252 u253 u254 u255 u256 u257 u258 u259 u260 u261 u262 u263 u264 u265 u266 u267 u268 u269 u270 u271 u272 u273 u274 u275 u276 u277 u278 u279 u280 u281 u282 u283 u284 u285 u286 u287 u288 u289 u290 u291 u292 u293 u294 u295 u296 u297 u298 u299 u300 u301 u302 u303 u304 u305 u306 u307 u308 u309 u310 u311 u312 u313 u314 u315 u316 u317 u318 u319 u320 u321 : Value} (h : Env w W D p q0 qs c11 c13) :
    Code.wp Ybaf.prog (piece Ybaf.f3.body 57) (bodyPost Ybaf.prog Ybaf.f3 (Yes w)) ⟨#[u0, u1, .bool D.hc, u3, .bool D.ho, u5, .int .i64 D.ok, .slice D.va D.m D.vcap, u8, u9, u10, .pointer (some ⟨c11, 0, none⟩), u12, .pointer (some ⟨c13, 0, none⟩), u14, u15, u16, u17, u18, .pointer (some ⟨p.n, 0, none⟩), u20, u21, u22, u23, u24, u25, u26, u27, u28, u29, u30, u31, u32, u33, u34, u35, u36, u37, u38, u39, u40, u41, u42, u43, u44, u45, u46, u47, u48, u49, u50, u51, u52, u53, u54, u55, u56, u57, u58, u59, u60, u61, u62, u63, u64, u65, u66, u67, u68, u69, u70, u71, u72, u73, u74, u75, u76, u77, u78, u79, u80, u81, u82, u83, u84, u85, u86, u87, u88, u89, u90, u91, u92, u93, u94, u95, u96, u97, u98, u99, u100, u101, u102, u103, u104, u105, u106, u107, u108, u109, u110, u111, u112, u113, u114, u115, u116, u117, u118, u119, u120, u121, u122, u123, u124, u125, u126, u127, u128, u129, u130, u131, u132, u133, u134, u135, u136, u137, u138, u139, u140, u141, u142, u143, u144, u145, u146, u147, u148, u149, u150, u151, u152, u153, u154, u155, u156, u157, u158, u159, u160, u161, u162, u163, u164, u165, u166, u167, u168, u169, u170, u171, u172, u173, u174, u175, u176, u177, u178, u179, u180, u181, u182, u183, u184, u185, u186, u187, u188, u189, u190, u191, u192, u193, u194, u195, u196, u197, u198, u199, u200, u201, u202, u203, u204, u205, u206, u207, u208, u209, u210, u211, u212, u213, u214, u215, u216, u217, u218, u219, u220, u221, u222, u223, u224, u225, u226, u227, u228, u229, u230, u231, u232, u233, u234, u235, u236, u237, u238, u239, u240, u241, u242, u243, u244, u245, u246, u247, u248, u249, u250, u251, u252, u253, u254, u255, u256, u257, u258, u259, u260, u261, u262, u263, u264, u265, u266, u267, u268, u269, u270, u271, u272, u273, u274, u275, u276, u277, u278, u279, u280, u281, u282, u283, u284, u285, u286, u287, u288, u289, u290, u291, u292, u293, u294, u295, u296, u297, u298, u299, u300, u301, u302, u303, u304, u305, u306, u307, u308, u309, u310, u311, u312, u313, u314, u315, u316, u317, u318, u319, u320, u321], []⟩ W := by
  conv => arg 2; whnf; dsimp only
  obtain ⟨B, eB⟩ : ∃ B, B = W.heap.size := ⟨_, rfl⟩
  have KE : ∀ W', Below B W W' → Env w W' D p q0 qs c11 c13 := fun W' hb => h.below (by rw [← eB]; exact hb)
  have HK := hide KE
  have EB := hide eB
  clear KE eB
  go_upto_if 204 with (fail)
  go_cut [2] from 204 to 250 (fun _ W' => Below B W W')
  case first =>
    cases eh : D.hc with
    | true =>
      have eo : (D.nod q0 qs).ctx = some (D.ck, D.ik, D.kk) := by unfold Dat.nod; rw [eh]; rfl
      have lck := h.good.lck
      have lik := h.good.lik
      have HSS := hide (show ∀ w', Below B W w' → w'.cell? ⟨p.n, 4, none⟩ = some (.pointer (some ⟨p.co, 0, none⟩)) ∧ w'.rangeAt p.co 0 (bc D.ck) ∧ w'.rangeAt p.co 16 (bc D.ik) ∧ w'.cell? ⟨p.co, 32, none⟩ = some (.int .i64 D.kk) ∧ w'.rangeAt c11 0 (bc D.ck) ∧ w'.rangeAt c11 16 (bc D.ik) ∧ w'.cell? ⟨c11, 32, none⟩ = some (.int .i64 D.kk) from fun w' hb => by
        have hE := HK.out _ hb
        obtain ⟨hb', l1, l2, _⟩ := hE.node.con D.ck D.ik D.kk eo
        have cn := hE.node.nd.cell (i := 4) rfl
        have ev : cVal (D.nod q0 qs) p = .pointer (some ⟨p.co, 0, none⟩) := by unfold cVal; rw [eo]
        rw [ev] at cn
        obtain ⟨s1, s2, s3⟩ := ctx_S hb' l1 l2
        obtain ⟨s4, s5, s6⟩ := ctx_S hE.b11 l1 l2
        exact ⟨cn, s1, s2, s3, s4, s5, s6⟩)
      clear h
      go_upto_region 58 with (fail)
      refine wp_region_noPanic ?_
      refine wp_region_held_drew (S := fun w' => w'.cell? ⟨p.n, 4, none⟩ = some (.pointer (some ⟨p.co, 0, none⟩)) ∧ w'.rangeAt p.co 0 (bc D.ck) ∧ w'.rangeAt p.co 16 (bc D.ik) ∧ w'.cell? ⟨p.co, 32, none⟩ = some (.int .i64 D.kk) ∧ w'.rangeAt c11 0 (bc D.ck) ∧ w'.rangeAt c11 16 (bc D.ik) ∧ w'.cell? ⟨c11, 32, none⟩ = some (.int .i64 D.kk)) (by kernel_rfl) (HSS.out _ (Below.refl B W).drew) (fun hS0 => ?_)
      refine wpAnyH_take (i := 0) (oi := { dst := some 205, op := Op.move (Operand.tmp 19), type := 29, pos := "zz_law_s7957a.go:164", after := #[], guard := none }) (v := .pointer (some ⟨p.n, 0, none⟩)) rfl (by kernel_rfl) (by kernel_rfl) (by kernel_rfl) (fun _ _ _ h => h) (Or.inl ⟨by rfl, ?_⟩) hS0 ?_
      · intro w hSw; go_simp
      simp only [Act.put, List.setIfInBounds_toArray, List.set_cons_zero, List.set_cons_succ]
      refine wpAnyH_take (i := 1) (oi := { dst := some 206, op := Op.nilCheck (Operand.tmp 205), type := 0, pos := "zz_law_s7957a.go:164", after := #[{ on := 0, ground := Ground.data }], guard := none }) (v := .pointer (some ⟨p.n, 0, none⟩)) rfl (by kernel_rfl) (by kernel_rfl) (by kernel_rfl) (fun _ _ _ h => h) (Or.inl ⟨by rfl, ?_⟩) hS0 ?_
      · intro w hSw; go_simp
      simp only [Act.put, List.setIfInBounds_toArray, List.set_cons_zero, List.set_cons_succ]
      refine wpAnyH_take (i := 2) (oi := { dst := some 207, op := Op.fieldAddr 34 (Operand.tmp 206) 4, type := 0, pos := "zz_law_s7957a.go:164", after := #[{ on := 1, ground := Ground.data }], guard := none }) (v := .pointer (some ⟨p.n, 4, none⟩)) rfl (by kernel_rfl) (by kernel_rfl) (by kernel_rfl) (fun _ _ _ h => h) (Or.inl ⟨by rfl, ?_⟩) hS0 ?_
      · intro w hSw; go_simp
      simp only [Act.put, List.setIfInBounds_toArray, List.set_cons_zero, List.set_cons_succ]
      refine wpAnyH_take (i := 3) (oi := { dst := some 208, op := Op.load 32 (Operand.tmp 207), type := 32, pos := "zz_law_s7957a.go:164", after := #[{ on := 2, ground := Ground.data }], guard := none }) (v := .pointer (some ⟨p.co, 0, none⟩)) rfl (by kernel_rfl) (by kernel_rfl) (by kernel_rfl) (fun _ _ _ h => h) (Or.inl ⟨by rfl, ?_⟩) hS0 ?_
      · intro w hSw; go_simp
      simp only [Act.put, List.setIfInBounds_toArray, List.set_cons_zero, List.set_cons_succ]
      refine wpAnyH_take (i := 4) (oi := { dst := some 209, op := Op.binOp BinOp.eql 32 (Operand.tmp 208) (Operand.const (Value.pointer none)) 32, type := 4, pos := "zz_law_s7957a.go:164", after := #[{ on := 3, ground := Ground.data }], guard := none }) (v := .bool false) rfl (by kernel_rfl) (by kernel_rfl) (by kernel_rfl) (fun _ _ _ h => h) (Or.inl ⟨by rfl, ?_⟩) hS0 ?_
      · intro w hSw; go_simp
      simp only [Act.put, List.setIfInBounds_toArray, List.set_cons_zero, List.set_cons_succ]
      refine wpAnyH_take (i := 5) (oi := { dst := some 210, op := Op.move (Operand.tmp 209), type := 4, pos := "zz_law_s7957a.go:164", after := #[{ on := 4, ground := Ground.data }], guard := none }) (v := .bool false) rfl (by kernel_rfl) (by kernel_rfl) (by kernel_rfl) (fun _ _ _ h => h) (Or.inl ⟨by rfl, ?_⟩) hS0 ?_
      · intro w hSw; go_simp
      simp only [Act.put, List.setIfInBounds_toArray, List.set_cons_zero, List.set_cons_succ]
      refine wpAnyH_take (i := 6) (oi := { dst := some 211, op := Op.move (Operand.tmp 19), type := 29, pos := "zz_law_s7957a.go:164", after := #[{ on := 5, ground := Ground.guard }], guard := some (5, false) }) (v := .pointer (some ⟨p.n, 0, none⟩)) rfl (by kernel_rfl) (by kernel_rfl) (by kernel_rfl) (fun _ _ _ h => h) (Or.inl ⟨by rfl, ?_⟩) hS0 ?_
      · intro w hSw; go_simp
      simp only [Act.put, List.setIfInBounds_toArray, List.set_cons_zero, List.set_cons_succ]
      refine wpAnyH_take (i := 7) (oi := { dst := some 212, op := Op.nilCheck (Operand.tmp 211), type := 0, pos := "zz_law_s7957a.go:164", after := #[{ on := 6, ground := Ground.data }, { on := 5, ground := Ground.guard }], guard := some (5, false) }) (v := .pointer (some ⟨p.n, 0, none⟩)) rfl (by kernel_rfl) (by kernel_rfl) (by kernel_rfl) (fun _ _ _ h => h) (Or.inl ⟨by rfl, ?_⟩) hS0 ?_
      · intro w hSw; go_simp
      simp only [Act.put, List.setIfInBounds_toArray, List.set_cons_zero, List.set_cons_succ]
      refine wpAnyH_take (i := 8) (oi := { dst := some 213, op := Op.fieldAddr 34 (Operand.tmp 212) 4, type := 0, pos := "zz_law_s7957a.go:164", after := #[{ on := 7, ground := Ground.data }, { on := 5, ground := Ground.guard }], guard := some (5, false) }) (v := .pointer (some ⟨p.n, 4, none⟩)) rfl (by kernel_rfl) (by kernel_rfl) (by kernel_rfl) (fun _ _ _ h => h) (Or.inl ⟨by rfl, ?_⟩) hS0 ?_
      · intro w hSw; go_simp
      simp only [Act.put, List.setIfInBounds_toArray, List.set_cons_zero, List.set_cons_succ]
      refine wpAnyH_take (i := 9) (oi := { dst := some 214, op := Op.load 32 (Operand.tmp 213), type := 32, pos := "zz_law_s7957a.go:164", after := #[{ on := 8, ground := Ground.data }, { on := 5, ground := Ground.guard }], guard := some (5, false) }) (v := .pointer (some ⟨p.co, 0, none⟩)) rfl (by kernel_rfl) (by kernel_rfl) (by kernel_rfl) (fun _ _ _ h => h) (Or.inl ⟨by rfl, ?_⟩) hS0 ?_
      · intro w hSw; go_simp
      simp only [Act.put, List.setIfInBounds_toArray, List.set_cons_zero, List.set_cons_succ]
      refine wpAnyH_take (i := 10) (oi := { dst := some 215, op := Op.nilCheck (Operand.tmp 214), type := 0, pos := "zz_law_s7957a.go:164", after := #[{ on := 9, ground := Ground.data }, { on := 5, ground := Ground.guard }], guard := some (5, false) }) (v := .pointer (some ⟨p.co, 0, none⟩)) rfl (by kernel_rfl) (by kernel_rfl) (by kernel_rfl) (fun _ _ _ h => h) (Or.inl ⟨by rfl, ?_⟩) hS0 ?_
      · intro w hSw; go_simp
      simp only [Act.put, List.setIfInBounds_toArray, List.set_cons_zero, List.set_cons_succ]
      refine wpAnyH_take (i := 11) (oi := { dst := some 216, op := Op.fieldAddr 35 (Operand.tmp 215) 0, type := 0, pos := "zz_law_s7957a.go:164", after := #[{ on := 10, ground := Ground.data }, { on := 5, ground := Ground.guard }], guard := some (5, false) }) (v := .pointer (some ⟨p.co, 0, none⟩)) rfl (by kernel_rfl) (by kernel_rfl) (by kernel_rfl) (fun _ _ _ h => h) (Or.inl ⟨by rfl, ?_⟩) hS0 ?_
      · intro w hSw; go_simp
      simp only [Act.put, List.setIfInBounds_toArray, List.set_cons_zero, List.set_cons_succ]
      refine wpAnyH_take (i := 12) (oi := { dst := some 217, op := Op.load 22 (Operand.tmp 216), type := 22, pos := "zz_law_s7957a.go:164", after := #[{ on := 11, ground := Ground.data }, { on := 5, ground := Ground.guard }], guard := some (5, false) }) (v := .agg (bc D.ck).toArray) rfl (by kernel_rfl) (by kernel_rfl) (by kernel_rfl) (fun _ _ _ h => h) (yieldsIf_load_mid (by rfl) _ _ rfl p.co 0 rfl (bc D.ck) _ (fun w h => h.2.1) Ybaf.underlying22 rfl (by rw [bc_length, lck]; exact info22)) hS0 ?_
      simp only [Act.put, List.setIfInBounds_toArray, List.set_cons_zero, List.set_cons_succ]
      refine wpAnyH_take (i := 13) (oi := { dst := some 218, op := Op.fieldAddr 24 (Operand.tmp 11) 0, type := 0, pos := "zz_law_s7957a.go:164", after := #[{ on := 5, ground := Ground.guard }], guard := some (5, false) }) (v := .pointer (some ⟨c11, 0, none⟩)) rfl (by kernel_rfl) (by kernel_rfl) (by kernel_rfl) (fun _ _ _ h => h) (Or.inl ⟨by rfl, ?_⟩) hS0 ?_
      · intro w hSw; go_simp
      simp only [Act.put, List.setIfInBounds_toArray, List.set_cons_zero, List.set_cons_succ]
      refine wpAnyH_take (i := 14) (oi := { dst := some 219, op := Op.load 22 (Operand.tmp 218), type := 22, pos := "zz_law_s7957a.go:164", after := #[{ on := 13, ground := Ground.data }, { on := 5, ground := Ground.guard }], guard := some (5, false) }) (v := .agg (bc D.ck).toArray) rfl (by kernel_rfl) (by kernel_rfl) (by kernel_rfl) (fun _ _ _ h => h) (yieldsIf_load_mid (by rfl) _ _ rfl c11 0 rfl (bc D.ck) _ (fun w h => h.2.2.2.2.1) Ybaf.underlying22 rfl (by rw [bc_length, lck]; exact info22)) hS0 ?_
      simp only [Act.put, List.setIfInBounds_toArray, List.set_cons_zero, List.set_cons_succ]
      refine wpAnyH_take (i := 15) (oi := { dst := some 220, op := Op.binOp BinOp.neq 22 (Operand.tmp 217) (Operand.tmp 219) 22, type := 4, pos := "zz_law_s7957a.go:164", after := #[{ on := 12, ground := Ground.data }, { on := 14, ground := Ground.data }, { on := 5, ground := Ground.guard }], guard := some (5, false) }) (v := .bool false) rfl (by kernel_rfl) (by kernel_rfl) (by kernel_rfl) (fun _ _ _ h => h) (yieldsIf_neq22 (by rfl) _ _ _ rfl D.ck lck rfl rfl) hS0 ?_
      simp only [Act.put, List.setIfInBounds_toArray, List.set_cons_zero, List.set_cons_succ]
      refine wpAnyH_take (i := 16) (oi := { dst := some 221, op := Op.pick (Operand.tmp 210) (Operand.const (Value.bool true)) (Operand.tmp 220), type := 4, pos := "zz_law_s7957a.go:164", after := #[{ on := 5, ground := Ground.data }, { on := 15, ground := Ground.data }], guard := none }) (v := .bool false) rfl (by kernel_rfl) (by kernel_rfl) (by kernel_rfl) (fun _ _ _ h => h) (Or.inl ⟨by rfl, ?_⟩) hS0 ?_
      · intro w hSw; go_simp
      simp only [Act.put, List.setIfInBounds_toArray, List.set_cons_zero, List.set_cons_succ]
      refine wpAnyH_take (i := 17) (oi := { dst := some 222, op := Op.move (Operand.tmp 221), type := 4, pos := "zz_law_s7957a.go:164", after := #[{ on := 16, ground := Ground.data }, { on := 5, ground := Ground.chain }], guard := none }) (v := .bool false) rfl (by kernel_rfl) (by kernel_rfl) (by kernel_rfl) (fun _ _ _ h => h) (Or.inl ⟨by rfl, ?_⟩) hS0 ?_
      · intro w hSw; go_simp
      simp only [Act.put, List.setIfInBounds_toArray, List.set_cons_zero, List.set_cons_succ]
      refine wpAnyH_take (i := 18) (oi := { dst := some 223, op := Op.move (Operand.tmp 19), type := 29, pos := "zz_law_s7957a.go:164", after := #[{ on := 17, ground := Ground.guard }], guard := some (17, false) }) (v := .pointer (some ⟨p.n, 0, none⟩)) rfl (by kernel_rfl) (by kernel_rfl) (by kernel_rfl) (fun _ _ _ h => h) (Or.inl ⟨by rfl, ?_⟩) hS0 ?_
      · intro w hSw; go_simp
      simp only [Act.put, List.setIfInBounds_toArray, List.set_cons_zero, List.set_cons_succ]
      refine wpAnyH_take (i := 19) (oi := { dst := some 224, op := Op.nilCheck (Operand.tmp 223), type := 0, pos := "zz_law_s7957a.go:164", after := #[{ on := 18, ground := Ground.data }, { on := 17, ground := Ground.guard }], guard := some (17, false) }) (v := .pointer (some ⟨p.n, 0, none⟩)) rfl (by kernel_rfl) (by kernel_rfl) (by kernel_rfl) (fun _ _ _ h => h) (Or.inl ⟨by rfl, ?_⟩) hS0 ?_
      · intro w hSw; go_simp
      simp only [Act.put, List.setIfInBounds_toArray, List.set_cons_zero, List.set_cons_succ]
      refine wpAnyH_take (i := 20) (oi := { dst := some 225, op := Op.fieldAddr 34 (Operand.tmp 224) 4, type := 0, pos := "zz_law_s7957a.go:164", after := #[{ on := 19, ground := Ground.data }, { on := 17, ground := Ground.guard }], guard := some (17, false) }) (v := .pointer (some ⟨p.n, 4, none⟩)) rfl (by kernel_rfl) (by kernel_rfl) (by kernel_rfl) (fun _ _ _ h => h) (Or.inl ⟨by rfl, ?_⟩) hS0 ?_
      · intro w hSw; go_simp
      simp only [Act.put, List.setIfInBounds_toArray, List.set_cons_zero, List.set_cons_succ]
      refine wpAnyH_take (i := 21) (oi := { dst := some 226, op := Op.load 32 (Operand.tmp 225), type := 32, pos := "zz_law_s7957a.go:164", after := #[{ on := 20, ground := Ground.data }, { on := 17, ground := Ground.guard }], guard := some (17, false) }) (v := .pointer (some ⟨p.co, 0, none⟩)) rfl (by kernel_rfl) (by kernel_rfl) (by kernel_rfl) (fun _ _ _ h => h) (Or.inl ⟨by rfl, ?_⟩) hS0 ?_
      · intro w hSw; go_simp
      simp only [Act.put, List.setIfInBounds_toArray, List.set_cons_zero, List.set_cons_succ]
      refine wpAnyH_take (i := 22) (oi := { dst := some 227, op := Op.nilCheck (Operand.tmp 226), type := 0, pos := "zz_law_s7957a.go:164", after := #[{ on := 21, ground := Ground.data }, { on := 17, ground := Ground.guard }], guard := some (17, false) }) (v := .pointer (some ⟨p.co, 0, none⟩)) rfl (by kernel_rfl) (by kernel_rfl) (by kernel_rfl) (fun _ _ _ h => h) (Or.inl ⟨by rfl, ?_⟩) hS0 ?_
      · intro w hSw; go_simp
      simp only [Act.put, List.setIfInBounds_toArray, List.set_cons_zero, List.set_cons_succ]
      refine wpAnyH_take (i := 23) (oi := { dst := some 228, op := Op.fieldAddr 35 (Operand.tmp 227) 1, type := 0, pos := "zz_law_s7957a.go:164", after := #[{ on := 22, ground := Ground.data }, { on := 17, ground := Ground.guard }], guard := some (17, false) }) (v := .pointer (some ⟨p.co, 16, none⟩)) rfl (by kernel_rfl) (by kernel_rfl) (by kernel_rfl) (fun _ _ _ h => h) (Or.inl ⟨by rfl, ?_⟩) hS0 ?_
      · intro w hSw; go_simp
      simp only [Act.put, List.setIfInBounds_toArray, List.set_cons_zero, List.set_cons_succ]
      refine wpAnyH_take (i := 24) (oi := { dst := some 229, op := Op.load 22 (Operand.tmp 228), type := 22, pos := "zz_law_s7957a.go:164", after := #[{ on := 23, ground := Ground.data }, { on := 17, ground := Ground.guard }], guard := some (17, false) }) (v := .agg (bc D.ik).toArray) rfl (by kernel_rfl) (by kernel_rfl) (by kernel_rfl) (fun _ _ _ h => h) (yieldsIf_load_mid (by rfl) _ _ rfl p.co 16 rfl (bc D.ik) _ (fun w h => h.2.2.1) Ybaf.underlying22 rfl (by rw [bc_length, lik]; exact info22)) hS0 ?_
      simp only [Act.put, List.setIfInBounds_toArray, List.set_cons_zero, List.set_cons_succ]
      refine wpAnyH_take (i := 25) (oi := { dst := some 230, op := Op.fieldAddr 24 (Operand.tmp 11) 1, type := 0, pos := "zz_law_s7957a.go:164", after := #[{ on := 17, ground := Ground.guard }], guard := some (17, false) }) (v := .pointer (some ⟨c11, 16, none⟩)) rfl (by kernel_rfl) (by kernel_rfl) (by kernel_rfl) (fun _ _ _ h => h) (Or.inl ⟨by rfl, ?_⟩) hS0 ?_
      · intro w hSw; go_simp
      simp only [Act.put, List.setIfInBounds_toArray, List.set_cons_zero, List.set_cons_succ]
      refine wpAnyH_take (i := 26) (oi := { dst := some 231, op := Op.load 22 (Operand.tmp 230), type := 22, pos := "zz_law_s7957a.go:164", after := #[{ on := 25, ground := Ground.data }, { on := 17, ground := Ground.guard }], guard := some (17, false) }) (v := .agg (bc D.ik).toArray) rfl (by kernel_rfl) (by kernel_rfl) (by kernel_rfl) (fun _ _ _ h => h) (yieldsIf_load_mid (by rfl) _ _ rfl c11 16 rfl (bc D.ik) _ (fun w h => h.2.2.2.2.2.1) Ybaf.underlying22 rfl (by rw [bc_length, lik]; exact info22)) hS0 ?_
      simp only [Act.put, List.setIfInBounds_toArray, List.set_cons_zero, List.set_cons_succ]
      refine wpAnyH_take (i := 27) (oi := { dst := some 232, op := Op.binOp BinOp.neq 22 (Operand.tmp 229) (Operand.tmp 231) 22, type := 4, pos := "zz_law_s7957a.go:164", after := #[{ on := 24, ground := Ground.data }, { on := 26, ground := Ground.data }, { on := 17, ground := Ground.guard }], guard := some (17, false) }) (v := .bool false) rfl (by kernel_rfl) (by kernel_rfl) (by kernel_rfl) (fun _ _ _ h => h) (yieldsIf_neq22 (by rfl) _ _ _ rfl D.ik lik rfl rfl) hS0 ?_
      simp only [Act.put, List.setIfInBounds_toArray, List.set_cons_zero, List.set_cons_succ]
      refine wpAnyH_take (i := 28) (oi := { dst := some 233, op := Op.pick (Operand.tmp 222) (Operand.const (Value.bool true)) (Operand.tmp 232), type := 4, pos := "zz_law_s7957a.go:164", after := #[{ on := 17, ground := Ground.data }, { on := 27, ground := Ground.data }], guard := none }) (v := .bool false) rfl (by kernel_rfl) (by kernel_rfl) (by kernel_rfl) (fun _ _ _ h => h) (Or.inl ⟨by rfl, ?_⟩) hS0 ?_
      · intro w hSw; go_simp
      simp only [Act.put, List.setIfInBounds_toArray, List.set_cons_zero, List.set_cons_succ]
      refine wpAnyH_take (i := 29) (oi := { dst := some 234, op := Op.move (Operand.tmp 233), type := 4, pos := "zz_law_s7957a.go:164", after := #[{ on := 28, ground := Ground.data }, { on := 17, ground := Ground.chain }], guard := none }) (v := .bool false) rfl (by kernel_rfl) (by kernel_rfl) (by kernel_rfl) (fun _ _ _ h => h) (Or.inl ⟨by rfl, ?_⟩) hS0 ?_
      · intro w hSw; go_simp
      simp only [Act.put, List.setIfInBounds_toArray, List.set_cons_zero, List.set_cons_succ]
      refine wpAnyH_take (i := 30) (oi := { dst := some 235, op := Op.move (Operand.tmp 19), type := 29, pos := "zz_law_s7957a.go:164", after := #[{ on := 29, ground := Ground.guard }], guard := some (29, false) }) (v := .pointer (some ⟨p.n, 0, none⟩)) rfl (by kernel_rfl) (by kernel_rfl) (by kernel_rfl) (fun _ _ _ h => h) (Or.inl ⟨by rfl, ?_⟩) hS0 ?_
      · intro w hSw; go_simp
      simp only [Act.put, List.setIfInBounds_toArray, List.set_cons_zero, List.set_cons_succ]
      refine wpAnyH_take (i := 31) (oi := { dst := some 236, op := Op.nilCheck (Operand.tmp 235), type := 0, pos := "zz_law_s7957a.go:164", after := #[{ on := 30, ground := Ground.data }, { on := 29, ground := Ground.guard }], guard := some (29, false) }) (v := .pointer (some ⟨p.n, 0, none⟩)) rfl (by kernel_rfl) (by kernel_rfl) (by kernel_rfl) (fun _ _ _ h => h) (Or.inl ⟨by rfl, ?_⟩) hS0 ?_
      · intro w hSw; go_simp
      simp only [Act.put, List.setIfInBounds_toArray, List.set_cons_zero, List.set_cons_succ]
      refine wpAnyH_take (i := 32) (oi := { dst := some 237, op := Op.fieldAddr 34 (Operand.tmp 236) 4, type := 0, pos := "zz_law_s7957a.go:164", after := #[{ on := 31, ground := Ground.data }, { on := 29, ground := Ground.guard }], guard := some (29, false) }) (v := .pointer (some ⟨p.n, 4, none⟩)) rfl (by kernel_rfl) (by kernel_rfl) (by kernel_rfl) (fun _ _ _ h => h) (Or.inl ⟨by rfl, ?_⟩) hS0 ?_
      · intro w hSw; go_simp
      simp only [Act.put, List.setIfInBounds_toArray, List.set_cons_zero, List.set_cons_succ]
      refine wpAnyH_take (i := 33) (oi := { dst := some 238, op := Op.load 32 (Operand.tmp 237), type := 32, pos := "zz_law_s7957a.go:164", after := #[{ on := 32, ground := Ground.data }, { on := 29, ground := Ground.guard }], guard := some (29, false) }) (v := .pointer (some ⟨p.co, 0, none⟩)) rfl (by kernel_rfl) (by kernel_rfl) (by kernel_rfl) (fun _ _ _ h => h) (Or.inl ⟨by rfl, ?_⟩) hS0 ?_
      · intro w hSw; go_simp
      simp only [Act.put, List.setIfInBounds_toArray, List.set_cons_zero, List.set_cons_succ]
      refine wpAnyH_take (i := 34) (oi := { dst := some 239, op := Op.nilCheck (Operand.tmp 238), type := 0, pos := "zz_law_s7957a.go:164", after := #[{ on := 33, ground := Ground.data }, { on := 29, ground := Ground.guard }], guard := some (29, false) }) (v := .pointer (some ⟨p.co, 0, none⟩)) rfl (by kernel_rfl) (by kernel_rfl) (by kernel_rfl) (fun _ _ _ h => h) (Or.inl ⟨by rfl, ?_⟩) hS0 ?_
      · intro w hSw; go_simp
      simp only [Act.put, List.setIfInBounds_toArray, List.set_cons_zero, List.set_cons_succ]
      refine wpAnyH_take (i := 35) (oi := { dst := some 240, op := Op.fieldAddr 35 (Operand.tmp 239) 2, type := 0, pos := "zz_law_s7957a.go:164", after := #[{ on := 34, ground := Ground.data }, { on := 29, ground := Ground.guard }], guard := some (29, false) }) (v := .pointer (some ⟨p.co, 32, none⟩)) rfl (by kernel_rfl) (by kernel_rfl) (by kernel_rfl) (fun _ _ _ h => h) (Or.inl ⟨by rfl, ?_⟩) hS0 ?_
      · intro w hSw; go_simp
      simp only [Act.put, List.setIfInBounds_toArray, List.set_cons_zero, List.set_cons_succ]
      refine wpAnyH_take (i := 36) (oi := { dst := some 241, op := Op.load 3 (Operand.tmp 240), type := 3, pos := "zz_law_s7957a.go:164", after := #[{ on := 35, ground := Ground.data }, { on := 29, ground := Ground.guard }], guard := some (29, false) }) (v := .int .i64 D.kk) rfl (by kernel_rfl) (by kernel_rfl) (by kernel_rfl) (fun _ _ _ h => h) (Or.inl ⟨by rfl, ?_⟩) hS0 ?_
      · intro w hSw; go_simp
      simp only [Act.put, List.setIfInBounds_toArray, List.set_cons_zero, List.set_cons_succ]
      refine wpAnyH_take (i := 37) (oi := { dst := some 242, op := Op.fieldAddr 24 (Operand.tmp 11) 2, type := 0, pos := "zz_law_s7957a.go:164", after := #[{ on := 29, ground := Ground.guard }], guard := some (29, false) }) (v := .pointer (some ⟨c11, 32, none⟩)) rfl (by kernel_rfl) (by kernel_rfl) (by kernel_rfl) (fun _ _ _ h => h) (Or.inl ⟨by rfl, ?_⟩) hS0 ?_
      · intro w hSw; go_simp
      simp only [Act.put, List.setIfInBounds_toArray, List.set_cons_zero, List.set_cons_succ]
      refine wpAnyH_take (i := 38) (oi := { dst := some 243, op := Op.load 3 (Operand.tmp 242), type := 3, pos := "zz_law_s7957a.go:164", after := #[{ on := 37, ground := Ground.data }, { on := 29, ground := Ground.guard }], guard := some (29, false) }) (v := .int .i64 D.kk) rfl (by kernel_rfl) (by kernel_rfl) (by kernel_rfl) (fun _ _ _ h => h) (Or.inl ⟨by rfl, ?_⟩) hS0 ?_
      · intro w hSw; go_simp
      simp only [Act.put, List.setIfInBounds_toArray, List.set_cons_zero, List.set_cons_succ]
      refine wpAnyH_take (i := 39) (oi := { dst := some 244, op := Op.binOp BinOp.neq 3 (Operand.tmp 241) (Operand.tmp 243) 3, type := 4, pos := "zz_law_s7957a.go:164", after := #[{ on := 36, ground := Ground.data }, { on := 38, ground := Ground.data }, { on := 29, ground := Ground.guard }], guard := some (29, false) }) (v := .bool false) rfl (by kernel_rfl) (by kernel_rfl) (by kernel_rfl) (fun _ _ _ h => h) (Or.inl ⟨by rfl, ?_⟩) hS0 ?_
      · intro w hSw; go_simp
      simp only [Act.put, List.setIfInBounds_toArray, List.set_cons_zero, List.set_cons_succ]
      refine wpAnyH_take (i := 40) (oi := { dst := some 245, op := Op.pick (Operand.tmp 234) (Operand.const (Value.bool true)) (Operand.tmp 244), type := 4, pos := "zz_law_s7957a.go:164", after := #[{ on := 29, ground := Ground.data }, { on := 39, ground := Ground.data }], guard := none }) (v := .bool false) rfl (by kernel_rfl) (by kernel_rfl) (by kernel_rfl) (fun _ _ _ h => h) (Or.inl ⟨by rfl, ?_⟩) hS0 ?_
      · intro w hSw; go_simp
      simp only [Act.put, List.setIfInBounds_toArray, List.set_cons_zero, List.set_cons_succ]
      refine wpAnyH_done (by kernel_rfl) ?_ _
      refine NoPanic.normal ?_
      go_wp2
      go_meet
      case rel => exact (Below.refl B W).drew
    | false =>
      have eo : (D.nod q0 qs).ctx = none := by unfold Dat.nod; rw [eh]; rfl
      have cn := h.node.nd.cell (i := 4) rfl
      have ev : cVal (D.nod q0 qs) p = .pointer none := by unfold cVal; rw [eo]
      rw [ev] at cn
      clear h
      go_wp2
      go_meet
      case rel => exact Below.refl _ _
  case rest =>
  rename_i hK
  exact hK _ _ (part_62 (HK.out _ hcut))
end Go.Proofs.YbulkfhtoFmt.A
