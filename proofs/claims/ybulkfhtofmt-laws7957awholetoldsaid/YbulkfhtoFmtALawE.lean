/-
  The walk of the law A: the vectors are as they were.
-/
import Derived.Test.YbulkfhtoFmtALaw0
namespace Go.Proofs.YbulkfhtoFmt.A
open Go.RowKit Go.Extern.Stop Go.Stop Go.Extern
attribute [local go_sem ↓] Go.wp_at_zero Go.wp_at_succ

theorem eq30o {pa : Option Addr} {n pc : Nat} (h : pa = none → n = 0 ∧ pc = 0) (w : World) : (binOp .eql 30 (.slice pa n pc) (.slice none 0 0)).run Ybaf.prog w = .ok (.bool (decide (pa = none))) w := by
  cases pa with
  | none =>
    obtain ⟨rfl, rfl⟩ := h rfl
    kernel_rfl
  | some x => kernel_rfl
theorem eq28o {pa : Option Addr} {n pc : Nat} (h : pa = none → n = 0 ∧ pc = 0) (w : World) : (binOp .eql 28 (.slice pa n pc) (.slice none 0 0)).run Ybaf.prog w = .ok (.bool (decide (pa = none))) w := by
  cases pa with
  | none =>
    obtain ⟨rfl, rfl⟩ := h rfl
    kernel_rfl
  | some x => kernel_rfl
theorem Cp.same {W : World} {z q : Qn} (h : Cp z q) (hq : q.Ok) (hx : Xs W q.pa q.t q.pc) (hy : Xs W z.pa z.t z.pc) :
    Calls Ybaf.prog 11 #[.agg q.cells.toArray, .agg z.cells.toArray] W fun e w' => e = .returned (.bool true) ∧ Below W.heap.size W w' := by
  have et : z.t = q.t := by have := h.eq; rw [this]
  have ez : z = { q with pa := z.pa, pc := z.pc } := by
    have := h.eq
    rw [this]
  have := same_any hq hx (by rw [← et]; exact hy) h.nil
  rw [← ez] at this
  exact this

set_option maxRecDepth 100000 in
set_option maxHeartbeats 16000000 in
theorem part_67 {w W : World} {D : Dat} {p : Pl} {q0 : Qn} {qs : Nat → Qn} {c11 c13 : Nat} {u0 u1 u2 u3 u4 u5 u6 u8 u9 u10 u11 u12 u13 u14 u15 u16 u17 u18 u20 u21 u22 u23 u24 u25 u26 u27 u28 u29 u30 u31 u32 u33 u34 u35 u36 u37 u38 u39 u40 u41 u42 u43 u44 u45 u46 u47 u48 u49 u50 u51 u52 u53 u54 u55 u56 u57 u58 u59 u60 u61 u62 u63 u64 u65 u66 u67 u68 u69 u70 u71 u72 u73 u74 u75 u76 u77 u78 u79 u80 u81 u82 u83 u84 u85 u86 u87 u88 u89 u90 u91 u92 u93 u94 u95 u96 u97 u98 u99 u100 u101 u102 u103 u104 u105 u106 u107 u108 u109 u110 u111 u112 u113 u114 u115 u116 u117 u118 u119 u120 u121 u122 u123 u124 u125 u126 u127 u128 u129 u130 u131 u132 u133 u134 u135 u136 u137 u138 u139 u140 u141 u142 u143 u144 u145 u146 u147 u148 u149 u150 u151 u152 u153 u154 u155 u156 u157 u158 u159 u160 u161 u162 u163 u164 u165 u166 u167 u168 u169 u170 u171 u172 u173 u174 u175 u176 u177 u178 u179 u180 u181 u182 u183 u184 u185 u186 u187 u188 u189 u190 u191 u192 u193 u194 u195 u196 u197 u198 u199 u200 u201 u202 u203 u204 u205 u206 u207 u208 u209 u210 u211 u212 u213 u214 u215 u216 u217 u218 u219 u220 u221 u222 u223 u224 u225 u226 u227 u228 u229 u230 u231 u232 u233 u234 u235 u236 u237 u238 u239 u240 u241 u242 u243 u244 u245 u246 u247 u248 u249 u250 u251 u252 u253 u254 u255 u256 u257 u258 u259 u260 u261 u262 u263 u264 u265 u266 u267 u268 u269 u270 u271 u272 u273 u274 u275 u276 u277 u278 u279 u280 u281 u282 u283 u284 u285 u286 u287 u288 u289 u290 u291 u292 u293 u294 u295 u296 u297 u298 u299 u300 u301 u302 u303 u304 u305 u306 u307 u308 u309 u310 u311 u312 u313 u314 u315 u316 u317 u318 u319 u320 u321 : Value} (h : Env w W D p q0 qs c11 c13) :
    Code.wp Ybaf.prog (piece Ybaf.f3.body 67) (bodyPost Ybaf.prog Ybaf.f3 (Yes w)) ⟨#[u0, u1, u2, u3, u4, u5, u6, .slice D.va D.m D.vcap, u8, u9, u10, u11, u12, u13, u14, u15, u16, u17, u18, .pointer (some ⟨p.n, 0, none⟩), u20, u21, u22, u23, u24, u25, u26, u27, u28, u29, u30, u31, u32, u33, u34, u35, u36, u37, u38, u39, u40, u41, u42, u43, u44, u45, u46, u47, u48, u49, u50, u51, u52, u53, u54, u55, u56, u57, u58, u59, u60, u61, u62, u63, u64, u65, u66, u67, u68, u69, u70, u71, u72, u73, u74, u75, u76, u77, u78, u79, u80, u81, u82, u83, u84, u85, u86, u87, u88, u89, u90, u91, u92, u93, u94, u95, u96, u97, u98, u99, u100, u101, u102, u103, u104, u105, u106, u107, u108, u109, u110, u111, u112, u113, u114, u115, u116, u117, u118, u119, u120, u121, u122, u123, u124, u125, u126, u127, u128, u129, u130, u131, u132, u133, u134, u135, u136, u137, u138, u139, u140, u141, u142, u143, u144, u145, u146, u147, u148, u149, u150, u151, u152, u153, u154, u155, u156, u157, u158, u159, u160, u161, u162, u163, u164, u165, u166, u167, u168, u169, u170, u171, u172, u173, u174, u175, u176, u177, u178, u179, u180, u181, u182, u183, u184, u185, u186, u187, u188, u189, u190, u191, u192, u193, u194, u195, u196, u197, u198, u199, u200, u201, u202, u203, u204, u205, u206, u207, u208, u209, u210, u211, u212, u213, u214, u215, u216, u217, u218, u219, u220, u221, u222, u223, u224, u225, u226, u227, u228, u229, u230, u231, u232, u233, u234, u235, u236, u237, u238, u239, u240, u241, u242, u243, u244, u245, u246, u247, u248, u249, u250, u251, u252, u253, u254, u255, u256, u257, u258, u259, u260, u261, u262, u263, u264, u265, u266, u267, u268, u269, u270, u271, u272, u273, u274, u275, u276, u277, u278, u279, u280, u281, u282, u283, u284, u285, u286, u287, u288, u289, u290, u291, u292, u293, u294, u295, u296, u297, u298, u299, u300, u301, u302, u303, u304, u305, u306, u307, u308, u309, u310, u311, u312, u313, u314, u315, u316, u317, u318, u319, u320, u321], []⟩ W := by
  conv => arg 2; whnf; dsimp only
  have m0 : (0 : Int) ≤ (D.m : Int) := by omega
  have hfew := h.good.few
  have m1 : (D.m : Int) ≤ 1048576 := by omega
  obtain ⟨va, cap, evh, hva, hvn⟩ : ∃ va cap, p.vh = .slice va D.m cap ∧ (0 < D.m → va = some ⟨p.vb, 0, none⟩) ∧ (va = none → D.m = 0 ∧ cap = 0) := by
    rcases h.node.vs with ⟨e, e0⟩ | ⟨cap, e⟩
    · have e0' : D.m = 0 := e0
      exact ⟨none, 0, by rw [e, e0'], fun h => by omega, fun _ => ⟨e0', rfl⟩⟩
    · exact ⟨_, cap, e, fun _ => rfl, fun h => by simp at h⟩
  have hdec : decide (va = none) = decide (D.va = none) := by
    have hv := h.vnil
    rw [evh] at hv
    cases va with
    | none =>
      obtain ⟨e1, e2⟩ := hvn rfl
      have : D.va = none := hv.1 (by rw [e1, e2])
      simp [this]
    | some y =>
      have : ¬ D.va = none := fun e => by have := hv.2 e; simp at this
      simp [this]
  have cn := h.node.nd.cell (i := 0) rfl
  rw [evh] at cn
  have y1 := eq30o hvn W
  have y2 := eq28o h.good.vn W
  rw [hdec] at y1
  clear hdec
  generalize decide (D.va = none) = bb at y1 y2
  obtain ⟨B, eB⟩ : ∃ B, B = W.heap.size := ⟨_, rfl⟩
  have KE : ∀ W', Below B W W' → Env w W' D p q0 qs c11 c13 := fun W' hb => h.below (by rw [← eB]; exact hb)
  have HK := hide KE
  have EB := hide eB
  have HVA := hide hva
  have HEV := hide evh
  clear KE h eB hva hvn evh
  go_upto_block 6 with (fail)
  clear cn y1 y2
  go_wp2_with fail
  go_loopw [24] (fun y W' => ∃ j : Nat, y = .int .i64 (j : Int) ∧ j ≤ D.m ∧ Below B W W') (fun y _ => D.m - (intOf y).toNat)
  case atStart => exact ⟨0, rfl, by omega, Below.refl _ _⟩
  case round =>
    obtain ⟨j, rfl, hj, hbel⟩ := hrel
    have j0 : (0 : Int) ≤ (j : Int) := by omega
    by_cases hlt : j < D.m
    · have j1 : (j : Int) < (D.m : Int) := by omega
      obtain rfl := HVA.out (by omega)
      have hE := HK.out _ hbel
      obtain ⟨b, off, eva, hrz, hz, hxz⟩ := hE.good.vec j hlt
      obtain ⟨hrq, hq, hxq, _⟩ := hE.node.vec j hlt
      replace hq : (qs j).Ok := hq
      have HSM := hide ((hE.cps j hlt).same (W := wr.drew) hq (hxq.grown (grown_drew (grown_refl _ _))) (hxz.grown (grown_drew (grown_refl _ _))))
      have HSS := hide (show ∀ w', Below B W w' → w'.cell? ⟨p.n, 0, none⟩ = some (.slice (some ⟨p.vb, 0, none⟩) D.m cap) ∧ w'.rangeAt p.vb (j * 65) (qs j).cells ∧ w'.rangeAt b (off + j * 65) (D.zs j).cells from fun w' hb => by
        have hE' := HK.out _ hb
        obtain ⟨b', off', eva', hrz', _⟩ := hE'.good.vec j hlt
        rw [eva] at eva'
        cases eva'
        have cn := hE'.node.nd.cell (i := 0) rfl
        rw [HEV.out] at cn
        exact ⟨cn, (hE'.node.vec j hlt).1, hrz'⟩)
      clear hE hrz hxz hrq hxq
      rw [eva]
      go_upto_region 72 with (fail)
      refine wp_region_noPanic ?_
      refine wp_region_held_drew (S := fun w' => w'.cell? ⟨p.n, 0, none⟩ = some (.slice (some ⟨p.vb, 0, none⟩) D.m cap) ∧ w'.rangeAt p.vb (j * 65) (qs j).cells ∧ w'.rangeAt b (off + j * 65) (D.zs j).cells) (by kernel_rfl) (HSS.out _ hbel.drew) (fun hS0 => ?_)
      refine wpAnyH_take (i := 0) (oi := { dst := some 309, op := Op.move (Operand.tmp 19), type := 29, pos := "zz_law_s7957a.go:181", after := #[], guard := none }) (v := .pointer (some ⟨p.n, 0, none⟩)) rfl (by kernel_rfl) (by kernel_rfl) (by kernel_rfl) (fun _ _ _ h => h) (Or.inl ⟨by rfl, ?_⟩) hS0 ?_
      · intro w hSw; go_simp
      simp only [Act.put, List.setIfInBounds_toArray, List.set_cons_zero, List.set_cons_succ]
      refine wpAnyH_take (i := 1) (oi := { dst := some 310, op := Op.nilCheck (Operand.tmp 309), type := 0, pos := "zz_law_s7957a.go:181", after := #[{ on := 0, ground := Ground.data }], guard := none }) (v := .pointer (some ⟨p.n, 0, none⟩)) rfl (by kernel_rfl) (by kernel_rfl) (by kernel_rfl) (fun _ _ _ h => h) (Or.inl ⟨by rfl, ?_⟩) hS0 ?_
      · intro w hSw; go_simp
      simp only [Act.put, List.setIfInBounds_toArray, List.set_cons_zero, List.set_cons_succ]
      refine wpAnyH_take (i := 2) (oi := { dst := some 311, op := Op.fieldAddr 34 (Operand.tmp 310) 0, type := 0, pos := "zz_law_s7957a.go:181", after := #[{ on := 1, ground := Ground.data }], guard := none }) (v := .pointer (some ⟨p.n, 0, none⟩)) rfl (by kernel_rfl) (by kernel_rfl) (by kernel_rfl) (fun _ _ _ h => h) (Or.inl ⟨by rfl, ?_⟩) hS0 ?_
      · intro w hSw; go_simp
      simp only [Act.put, List.setIfInBounds_toArray, List.set_cons_zero, List.set_cons_succ]
      refine wpAnyH_take (i := 3) (oi := { dst := some 312, op := Op.load 30 (Operand.tmp 311), type := 30, pos := "zz_law_s7957a.go:181", after := #[{ on := 2, ground := Ground.data }], guard := none }) (v := .slice (some ⟨p.vb, 0, none⟩) D.m cap) rfl (by kernel_rfl) (by kernel_rfl) (by kernel_rfl) (fun _ _ _ h => h) (Or.inl ⟨by rfl, ?_⟩) hS0 ?_
      · intro w hSw; go_simp
      simp only [Act.put, List.setIfInBounds_toArray, List.set_cons_zero, List.set_cons_succ]
      refine wpAnyH_take (i := 4) (oi := { dst := some 313, op := Op.move (Operand.tmp 24), type := 3, pos := "zz_law_s7957a.go:181", after := #[], guard := none }) (v := .int .i64 (j : Int)) rfl (by kernel_rfl) (by kernel_rfl) (by kernel_rfl) (fun _ _ _ h => h) (Or.inl ⟨by rfl, ?_⟩) hS0 ?_
      · intro w hSw; go_simp
      simp only [Act.put, List.setIfInBounds_toArray, List.set_cons_zero, List.set_cons_succ]
      refine wpAnyH_take (i := 5) (oi := { dst := some 314, op := Op.indexAddr 30 (Operand.tmp 312) (Operand.tmp 313), type := 0, pos := "zz_law_s7957a.go:181", after := #[{ on := 3, ground := Ground.data }, { on := 4, ground := Ground.data }], guard := none }) (v := .pointer (some ⟨p.vb, j * 65, none⟩)) rfl (by kernel_rfl) (by kernel_rfl) (by kernel_rfl) (fun _ _ _ h => h) (Or.inl ⟨by rfl, ?_⟩) hS0 ?_
      · intro w hSw; go_simp
      simp only [Act.put, List.setIfInBounds_toArray, List.set_cons_zero, List.set_cons_succ]
      refine wpAnyH_take (i := 6) (oi := { dst := some 315, op := Op.load 36 (Operand.tmp 314), type := 36, pos := "zz_law_s7957a.go:181", after := #[{ on := 5, ground := Ground.data }], guard := none }) (v := .agg (qs j).cells.toArray) rfl (by kernel_rfl) (by kernel_rfl) (by kernel_rfl) (fun _ _ _ h => h) (yieldsIf_load_mid (by rfl) _ _ rfl p.vb (j * 65) rfl (qs j).cells _ (fun w h => h.2.1) Ybaf.underlying36 rfl (by rw [hq.size]; exact info36)) hS0 ?_
      simp only [Act.put, List.setIfInBounds_toArray, List.set_cons_zero, List.set_cons_succ]
      refine wpAnyH_take (i := 7) (oi := { dst := some 316, op := Op.move (Operand.tmp 7), type := 28, pos := "zz_law_s7957a.go:181", after := #[], guard := none }) (v := .slice (some ⟨b, off, none⟩) D.m D.vcap) rfl (by kernel_rfl) (by kernel_rfl) (by kernel_rfl) (fun _ _ _ h => h) (Or.inl ⟨by rfl, ?_⟩) hS0 ?_
      · intro w hSw; go_simp
      simp only [Act.put, List.setIfInBounds_toArray, List.set_cons_zero, List.set_cons_succ]
      refine wpAnyH_take (i := 8) (oi := { dst := some 317, op := Op.move (Operand.tmp 24), type := 3, pos := "zz_law_s7957a.go:181", after := #[], guard := none }) (v := .int .i64 (j : Int)) rfl (by kernel_rfl) (by kernel_rfl) (by kernel_rfl) (fun _ _ _ h => h) (Or.inl ⟨by rfl, ?_⟩) hS0 ?_
      · intro w hSw; go_simp
      simp only [Act.put, List.setIfInBounds_toArray, List.set_cons_zero, List.set_cons_succ]
      refine wpAnyH_take (i := 9) (oi := { dst := some 318, op := Op.indexAddr 28 (Operand.tmp 316) (Operand.tmp 317), type := 0, pos := "zz_law_s7957a.go:181", after := #[{ on := 7, ground := Ground.data }, { on := 8, ground := Ground.data }], guard := none }) (v := .pointer (some ⟨b, off + j * 65, none⟩)) rfl (by kernel_rfl) (by kernel_rfl) (by kernel_rfl) (fun _ _ _ h => h) (Or.inl ⟨by rfl, ?_⟩) hS0 ?_
      · intro w hSw; go_simp
      simp only [Act.put, List.setIfInBounds_toArray, List.set_cons_zero, List.set_cons_succ]
      refine wpAnyH_take (i := 10) (oi := { dst := some 319, op := Op.load 27 (Operand.tmp 318), type := 27, pos := "zz_law_s7957a.go:181", after := #[{ on := 9, ground := Ground.data }], guard := none }) (v := .agg (D.zs j).cells.toArray) rfl (by kernel_rfl) (by kernel_rfl) (by kernel_rfl) (fun _ _ _ h => h) (yieldsIf_load_mid (by rfl) _ _ rfl b (off + j * 65) rfl (D.zs j).cells _ (fun w h => h.2.2) Ybaf.underlying27 rfl (by rw [hz.size]; exact info27)) hS0 ?_
      simp only [Act.put, List.setIfInBounds_toArray, List.set_cons_zero, List.set_cons_succ]
      refine wpAnyH_ready (rs := [11]) (by kernel_rfl) (by simp) ?_
      refine AllReadyH.cons (o := { dst := some 320, op := Op.call { callee := Callee.value (Operand.func 11), args := #[Operand.tmp 315, Operand.tmp 319], argTypes := #[36, 27] }, type := 4, pos := "zz_law_s7957a.go:181", after := #[{ on := 6, ground := Ground.data }, { on := 10, ground := Ground.data }], guard := none }) rfl (fun K hK => ?_) AllReadyH.nil
      go_wp2_with fail
      refine HSM.out.mono ?_
      rintro e w5 ⟨rfl, hb5⟩
      have bel5 := hbel.drew.trans (hb5.mono (by show B ≤ wr.heap.size; rw [EB.out]; exact hbel.size))
      refine hK.out _ _ (HSS.out _ bel5) (fun hS1 => ?_)
      clear hK K
      refine wpAnyH_take (i := 12) (oi := { dst := some 321, op := Op.unOp UnOp.not 4 (Operand.tmp 320), type := 4, pos := "zz_law_s7957a.go:181", after := #[{ on := 11, ground := Ground.data }], guard := none }) (v := .bool false) rfl (by kernel_rfl) (by kernel_rfl) (by kernel_rfl) (fun _ _ _ h => h) (Or.inl ⟨by rfl, ?_⟩) hS1 ?_
      · intro w hSw; go_simp
      simp only [Act.put, List.setIfInBounds_toArray, List.set_cons_zero, List.set_cons_succ]
      refine wpAnyH_done (by kernel_rfl) ?_ _
      refine NoPanic.normal ?_
      go_wp2
      exact ⟨⟨j + 1, by go_num, by omega, bel5⟩, by simp [intOf]; omega⟩
    · have j1 : ¬ (j : Int) < (D.m : Int) := by omega
      go_wp2
      go_ret
      exact ⟨rfl, (HK.out _ hbel).bel⟩
end Go.Proofs.YbulkfhtoFmt.A
