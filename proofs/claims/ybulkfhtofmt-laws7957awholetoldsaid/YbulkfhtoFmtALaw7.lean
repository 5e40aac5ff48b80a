/-
  The walk of the law A: the vectors and the call.
-/
import Derived.Test.YbulkfhtoFmtALaw8
namespace Go.Proofs.YbulkfhtoFmt.A
open Go.RowKit Go.Extern.Stop Go.Stop Go.Extern
attribute [local go_sem ↓] Go.wp_at_zero Go.wp_at_succ

theorem info36z : (Ybaf.prog.info? 36).map (fun i => (i.zero, i.size, i.bytes)) = some (some (.agg Qn.zero.cells.toArray), 65, 88) := by kernel_rfl
theorem wpList_make {P : Program} {ops : Array Oper} {rest : List Oper} {op : Oper} {a : Act} {w w' : World} {Q : Exit → Act → World → Prop} (hgd : op.guard = none) (t : TypeId) (x y : Operand) (ho : op.op = .makeSlice t x y) {l c v : Value} (hx : a.eval x = l) (hy : a.eval y = c)
    (hr : (Instr.makeSlice t l c).run P w = .ok v w') (h : wpList P ops Q rest (a.put op.dst v) w') : wpList P ops Q (op :: rest) a w :=
  wpList_plain hgd fun K hK => by
    unfold Oper.wp execOp
    simp only [ho, hx, hy, Sem.run_bind, Sem.run_pure, Result.andThen_ok, hr]
    exact hK _ _ h
theorem ne28o {pa : Option Addr} {n pc : Nat} (h : pa = none → n = 0 ∧ pc = 0) (w : World) : (binOp .neq 28 (.slice pa n pc) (.slice none 0 0)).run Ybaf.prog w = .ok (.bool (decide (pa ≠ none))) w := by
  cases pa with
  | none =>
    obtain ⟨rfl, rfl⟩ := h rfl
    kernel_rfl
  | some x => kernel_rfl
theorem Pre.env {w W : World} {D : Dat} {n co oo vb : Nat} {q0 : Qn} {vh : Value} {c11 c13 : Nat} {qs : Nat → Qn} (h : Pre w W D n co oo q0 vh c11 c13) (hv : vh = .slice none 0 0 ∧ D.m = 0 ∨ ∃ cap, vh = .slice (some ⟨vb, 0, none⟩) D.m cap)
    (vec : ∀ j, j < D.m → W.rangeAt vb (j * 65) (qs j).cells ∧ (qs j).Ok ∧ Xs W (qs j).pa (qs j).t (qs j).pc ∧ ∀ x, (qs j).pa = some x → x.block < W.heap.size) (cps : ∀ j, j < D.m → Cp (D.zs j) (qs j)) (hn : vh = .slice none 0 0 ↔ D.va = none) :
    Env w W D ⟨n, vh, co, oo, vb⟩ q0 qs c11 c13 := by
  refine ⟨⟨?_, fun ck ik k e => ?_, fun q k e => ?_, hv, vec, h.good.few⟩, fun e => (h.mid.out e).2.1, cps, hn, h.b11, h.b13, h.good, h.bel⟩
  · have e1 : oVal (D.nod q0 qs) ⟨n, vh, co, oo, vb⟩ = (if D.ho then .pointer (some ⟨oo, 0, none⟩) else .pointer none) := by
      unfold oVal Dat.nod
      cases D.ho <;> rfl
    have e2 : cVal (D.nod q0 qs) ⟨n, vh, co, oo, vb⟩ = (if D.hc then .pointer (some ⟨co, 0, none⟩) else .pointer none) := by
      unfold cVal Dat.nod
      cases D.hc <;> rfl
    rw [e1, e2]
    exact h.mid.nd
  · cases hh : D.hc with
    | false => unfold Dat.nod at e; rw [hh] at e; simp at e
    | true =>
      unfold Dat.nod at e
      rw [hh] at e
      simp at e
      obtain ⟨rfl, rfl, rfl⟩ := e
      exact ⟨h.mid.con hh, h.good.lck, h.good.lik, h.good.wkk⟩
  · cases hh : D.ho with
    | false => unfold Dat.nod at e; rw [hh] at e; simp at e
    | true =>
      unfold Dat.nod at e
      rw [hh] at e
      simp at e
      obtain ⟨rfl, rfl⟩ := e
      obtain ⟨a, _, c, d, f⟩ := h.mid.out hh
      exact ⟨a, c, d, f, h.good.wok⟩

set_option maxRecDepth 100000 in
set_option maxHeartbeats 16000000 in
theorem part_17 {w W : World} {D : Dat} {n co oo : Nat} {q0 : Qn} {c11 c13 : Nat} {u3 u5 u8 u9 u10 u12 u14 u15 u16 u17 u18 u20 u21 u22 u23 u24 u25 u26 u27 u28 u29 u30 u31 u32 u33 u34 u35 u36 u37 u38 u39 u40 u41 u42 u43 u44 u45 u46 u47 u48 u49 u50 u51 u52 u53 u54 u55 u56 u57 u58 u59 u60 u61 u62 u63 u64 u65 u66 u67 u68 u69 u70 u71 u72 u73 u74 u75 u76 u77 u78 u79 u80 u81 u82 u83 u84 u85 u86 u87 u88 u89 u90 u91 u92 u93 u94 u95 u96 u97 u98 u99 u100 u101 u102 u103 u104 u105 u106 u107 u108 u109 u110 u111 u112 u113 u114 u115 u116 u117 u118 u119 u120 u121 u122 u123 u124 u125 u126 u127 u128 u129 u130 u131 u132 u133 u134 u135 u136 u137 u138 u139 u140 u141 u142 u143 u144 u145 u146 u147 u148 u149 u150 u151 u152 u153 u154 u155 u156 u157 u158 u159 u160 u161 u162 u163 u164 u165 u166 u167 u168 u169 u170 u171 u172 u173 u174 u175 u176 u177 u178 u179 u180 u181 u182 u183 u184 u185 u186 u187 u188 u189 u190 u191 u192 u193 u194 u195 u196 u197 u198 u199 u200 u201 u202 u203 u204 u205 u206 u207 u208 u209 u210 u211 u212 u213 u214 u215 u216 u217 u218 u219 u220 u221 u222 u223 u224 u225 u226 u227 u228 u229 u230 u231 u232 u233 u234 u235 u236 u237 u238 u239 u240 u241 u242 u243 u244 u245 u246 u247 u248 u249 u250 u251 u252 u253 u254 u255 u256 u257 u258 u259 u260 u261 u262 u263 u264 u265 u266 u267 u268 u269 u270 u271 u272 u273 u274 u275 u276 u277 u278 u279 u280 u281 u282 u283 u284 u285 u286 u287 u288 u289 u290 u291 u292 u293 u294 u295 u296 u297 u298 u299 u300 u301 u302 u303 u304 u305 u306 u307 u308 u309 u310 u311 u312 u313 u314 u315 u316 u317 u318 u319 u320 u321 : Value} (F : Interp) (hF : F.told.answers w.tape) (h : Pre w W D n co oo q0 (.slice none 0 0) c11 c13) :
    Code.wp Ybaf.prog (piece Ybaf.f3.body 17) (bodyPost Ybaf.prog Ybaf.f3 (Yes w)) ⟨#[.int .i64 D.x, .bool D.rs, .bool D.hc, u3, .bool D.ho, u5, .int .i64 D.ok, .slice D.va D.m D.vcap, u8, u9, u10, .pointer (some ⟨c11, 0, none⟩), u12, .pointer (some ⟨c13, 0, none⟩), u14, u15, u16, u17, u18, .pointer (some ⟨n, 0, none⟩), u20, u21, u22, u23, u24, u25, u26, u27, u28, u29, u30, u31, u32, u33, u34, u35, u36, u37, u38, u39, u40, u41, u42, u43, u44, u45, u46, u47, u48, u49, u50, u51, u52, u53, u54, u55, u56, u57, u58, u59, u60, u61, u62, u63, u64, u65, u66, u67, u68, u69, u70, u71, u72, u73, u74, u75, u76, u77, u78, u79, u80, u81, u82, u83, u84, u85, u86, u87, u88, u89, u90, u91, u92, u93, u94, u95, u96, u97, u98, u99, u100, u101, u102, u103, u104, u105, u106, u107, u108, u109, u110, u111, u112, u113, u114, u115, u116, u117, u118, u119, u120, u121, u122, u123, u124, u125, u126, u127, u128, u129, u130, u131, u132, u133, u134, u135, u136, u137, u138, u139, u140, u141, u142, u143, u144, u145, u146, u147, u148, u149, u150, u151, u152, u153, u154, u155, u156, u157, u158, u159, u160, u161, u162, u163, u164, u165, u166, u167, u168, u169, u170, u171, u172, u173, u174, u175, u176, u177, u178, u179, u180, u181, u182, u183, u184, u185, u186, u187, u188, u189, u190, u191, u192, u193, u194, u195, u196, u197, u198, u199, u200, u201, u202, u203, u204, u205, u206, u207, u208, u209, u210, u211, u212, u213, u214, u215, u216, u217, u218, u219, u220, u221, u222, u223, u224, u225, u226, u227, u228, u229, u230, u231, u232, u233, u234, u235, u236, u237, u238, u239, u240, u241, u242, u243, u244, u245, u246, u247, u248, u249, u250, u251, u252, u253, u254, u255, u256, u257, u258, u259, u260, u261, u262, u263, u264, u265, u266, u267, u268, u269, u270, u271, u272, u273, u274, u275, u276, u277, u278, u279, u280, u281, u282, u283, u284, u285, u286, u287, u288, u289, u290, u291, u292, u293, u294, u295, u296, u297, u298, u299, u300, u301, u302, u303, u304, u305, u306, u307, u308, u309, u310, u311, u312, u313, u314, u315, u316, u317, u318, u319, u320, u321], []⟩ W := by
  conv => arg 2; whnf; dsimp only
  have m0 : (0 : Int) ≤ (D.m : Int) := by omega
  have hfew := h.good.few
  have m1 : (D.m : Int) ≤ 1048576 := by omega
  have y1 := ne28o h.good.vn W
  have HP := hide h
  clear h
  go_upto_if 83 with (fail)
  clear y1
  go_cut [7, 20] from 82 to 106 (fun v _ W' => v = .slice D.va D.m D.vcap ∧ ∃ (p : Pl) (qs : Nat → Qn), p.n = n ∧ Env w W' D p q0 qs c11 c13)
  case first =>
    cases eva : D.va with
    | none =>
      go_wp2
      go_meet
      case rel =>
        refine ⟨by rw [eva], ⟨n, .slice none 0 0, co, oo, 0⟩, fun _ => q0, rfl, ?_⟩
        obtain ⟨e0, _⟩ := HP.out.good.vn eva
        exact HP.out.env (.inl ⟨rfl, e0⟩) (fun j hj => by omega) (fun j hj => by omega) ⟨fun _ => eva, fun _ => rfl⟩
    | some y =>
      obtain ⟨i36, e36a, e36b, e36c, e36d⟩ := info_parts info36z
      have hmk := run_make (P := Ybaf.prog) W 30 36 i36 _ Ybaf.underlying30 e36a e36b .i64 .i64 (D.m : Int) (D.m : Int) (by omega) (Int.le_refl _) (by rw [e36d]; omega) (by omega)
      simp only [Int.toNat_natCast, e36c, show (Value.agg Qn.zero.cells.toArray).cells = Qn.zero.cells.toArray from rfl] at hmk
      have hLs := fun qs => HP.out.start (qs := qs) (madeCells Qn.zero.cells.toArray (D.m * 65)) (size_madeCells _ _)
      have cn := (HP.out.mid.below ((Below.refl _ W).alloc (Nat.le_refl _) (.cells (madeCells Qn.zero.cells.toArray (D.m * 65)) 36))).nd.cell (i := 0) rfl
      have fn := (HP.out.mid.below ((Below.refl _ W).alloc (Nat.le_refl _) (.cells (madeCells Qn.zero.cells.toArray (D.m * 65)) 36))).nd.frozen 0
      obtain ⟨vb, evb⟩ : ∃ vb, vb = W.heap.size := ⟨_, rfl⟩
      rw [← evb] at hmk hLs
      have EVB := hide evb
      have HLS := hide hLs
      clear evb hLs
      go_upto_block 2 with (refine wpList_make (by rfl) 30 _ _ (by rfl) (by rfl) (by rfl) hmk ?_)
      have hL0 := HLS.out (fun _ => q0)
      clear hmk cn fn HLS
      generalize ((W.alloc (.cells (madeCells Qn.zero.cells.toArray (D.m * 65)) 36)).setCell ⟨n, 0, none⟩ (.slice (some ⟨vb, 0, none⟩) D.m D.m)) = w2 at hL0 ⊢
      go_wp2_with fail
      go_loopw [20] (fun y W' => ∃ (j : Nat) (qs : Nat → Qn), y = .int .i64 (j : Int) ∧ Loop w W' D n co oo q0 c11 c13 vb j qs) (fun y _ => D.m - (intOf y).toNat)
      case atStart => exact ⟨0, _, rfl, hL0⟩
      case round =>
        clear hL0
        obtain ⟨j, qs, rfl, hL⟩ := hrel
        have hj := hL.le
        have j0 : (0 : Int) ≤ (j : Int) := by omega
        by_cases hlt : j < D.m
        · have j1 : (j : Int) < (D.m : Int) := by omega
          obtain ⟨b, off, eva', _, hz, hxz⟩ := hL.good.vec j hlt
          rw [eva] at eva'
          cases eva'
          have hvl : vb < wr.heap.size := by
            obtain ⟨a, _⟩ := hL.room 0 0 (by omega)
            obtain ⟨v, hv⟩ := Option.isSome_iff_exists.1 a
            exact World.block_lt_of_cell? _ _ hv
          have HMK := hide (mk_any (W := wr.drew) hz (hxz.grown (grown_drew (grown_refl _ _))))
          go_upto_region 22 with (fail)
          refine wp_region_noPanic ?_
          refine wp_region_held_drew (S := fun w' => w'.cell? ⟨n, 0, none⟩ = some (.slice (some ⟨vb, 0, none⟩) D.m D.m) ∧ w'.rangeAt b (off + j * 65) (D.zs j).cells ∧ w'.there vb (j * 65) 65) (by kernel_rfl) ⟨hL.mid.nd.cell (i := 0) rfl, vec_range hL.good hlt eva, fun i hi => hL.room (j * 65) i (by omega)⟩ (fun hS0 => ?_)
          refine wpAnyH_take (i := 0) (oi := { dst := some 96, op := Op.move (Operand.tmp 19), type := 29, pos := "zz_law_s7957a.go:118", after := #[], guard := none }) (v := .pointer (some ⟨n, 0, none⟩)) rfl (by kernel_rfl) (by kernel_rfl) (by kernel_rfl) (fun _ _ _ h => h) (Or.inl ⟨by rfl, ?_⟩) hS0 ?_
          · intro w hSw; go_simp
          simp only [Act.put, List.setIfInBounds_toArray, List.set_cons_zero, List.set_cons_succ]
          refine wpAnyH_take (i := 1) (oi := { dst := some 97, op := Op.nilCheck (Operand.tmp 96), type := 0, pos := "zz_law_s7957a.go:118", after := #[{ on := 0, ground := Ground.data }], guard := none }) (v := .pointer (some ⟨n, 0, none⟩)) rfl (by kernel_rfl) (by kernel_rfl) (by kernel_rfl) (fun _ _ _ h => h) (Or.inl ⟨by rfl, ?_⟩) hS0 ?_
          · intro w hSw; go_simp
          simp only [Act.put, List.setIfInBounds_toArray, List.set_cons_zero, List.set_cons_succ]
          refine wpAnyH_take (i := 2) (oi := { dst := some 98, op := Op.fieldAddr 34 (Operand.tmp 97) 0, type := 0, pos := "zz_law_s7957a.go:118", after := #[{ on := 1, ground := Ground.data }], guard := none }) (v := .pointer (some ⟨n, 0, none⟩)) rfl (by kernel_rfl) (by kernel_rfl) (by kernel_rfl) (fun _ _ _ h => h) (Or.inl ⟨by rfl, ?_⟩) hS0 ?_
          · intro w hSw; go_simp
          simp only [Act.put, List.setIfInBounds_toArray, List.set_cons_zero, List.set_cons_succ]
          refine wpAnyH_take (i := 3) (oi := { dst := some 99, op := Op.load 30 (Operand.tmp 98), type := 30, pos := "zz_law_s7957a.go:118", after := #[{ on := 2, ground := Ground.data }], guard := none }) (v := .slice (some ⟨vb, 0, none⟩) D.m D.m) rfl (by kernel_rfl) (by kernel_rfl) (by kernel_rfl) (fun _ _ _ h => h) (Or.inl ⟨by rfl, ?_⟩) hS0 ?_
          · intro w hSw; go_simp
          simp only [Act.put, List.setIfInBounds_toArray, List.set_cons_zero, List.set_cons_succ]
          refine wpAnyH_take (i := 4) (oi := { dst := some 100, op := Op.move (Operand.tmp 20), type := 3, pos := "zz_law_s7957a.go:118", after := #[], guard := none }) (v := .int .i64 (j : Int)) rfl (by kernel_rfl) (by kernel_rfl) (by kernel_rfl) (fun _ _ _ h => h) (Or.inl ⟨by rfl, ?_⟩) hS0 ?_
          · intro w hSw; go_simp
          simp only [Act.put, List.setIfInBounds_toArray, List.set_cons_zero, List.set_cons_succ]
          refine wpAnyH_take (i := 5) (oi := { dst := some 101, op := Op.move (Operand.tmp 7), type := 28, pos := "zz_law_s7957a.go:118", after := #[], guard := none }) (v := .slice (some ⟨b, off, none⟩) D.m D.vcap) rfl (by kernel_rfl) (by kernel_rfl) (by kernel_rfl) (fun _ _ _ h => h) (Or.inl ⟨by rfl, ?_⟩) hS0 ?_
          · intro w hSw; go_simp
          simp only [Act.put, List.setIfInBounds_toArray, List.set_cons_zero, List.set_cons_succ]
          refine wpAnyH_take (i := 6) (oi := { dst := some 102, op := Op.move (Operand.tmp 20), type := 3, pos := "zz_law_s7957a.go:118", after := #[], guard := none }) (v := .int .i64 (j : Int)) rfl (by kernel_rfl) (by kernel_rfl) (by kernel_rfl) (fun _ _ _ h => h) (Or.inl ⟨by rfl, ?_⟩) hS0 ?_
          · intro w hSw; go_simp
          simp only [Act.put, List.setIfInBounds_toArray, List.set_cons_zero, List.set_cons_succ]
          refine wpAnyH_take (i := 7) (oi := { dst := some 103, op := Op.indexAddr 28 (Operand.tmp 101) (Operand.tmp 102), type := 0, pos := "zz_law_s7957a.go:118", after := #[{ on := 5, ground := Ground.data }, { on := 6, ground := Ground.data }], guard := none }) (v := .pointer (some ⟨b, off + j * 65, none⟩)) rfl (by kernel_rfl) (by kernel_rfl) (by kernel_rfl) (fun _ _ _ h => h) (Or.inl ⟨by rfl, ?_⟩) hS0 ?_
          · intro w hSw; go_simp
          simp only [Act.put, List.setIfInBounds_toArray, List.set_cons_zero, List.set_cons_succ]
          refine wpAnyH_take (i := 8) (oi := { dst := some 104, op := Op.load 27 (Operand.tmp 103), type := 27, pos := "zz_law_s7957a.go:118", after := #[{ on := 7, ground := Ground.data }], guard := none }) (v := .agg (D.zs j).cells.toArray) rfl (by kernel_rfl) (by kernel_rfl) (by kernel_rfl) (fun _ _ _ h => h) (yieldsIf_load_mid (by rfl) _ _ rfl b (off + j * 65) rfl (D.zs j).cells _ (fun w h => h.2.1) Ybaf.underlying27 rfl (by rw [hz.size]; exact info27)) hS0 ?_
          simp only [Act.put, List.setIfInBounds_toArray, List.set_cons_zero, List.set_cons_succ]
          refine wpAnyH_ready (rs := [9]) (by kernel_rfl) (by simp) ?_
          refine AllReadyH.cons (o := { dst := some 105, op := Op.call { callee := Callee.value (Operand.func 4), args := #[Operand.tmp 104], argTypes := #[27] }, type := 36, pos := "zz_law_s7957a.go:118", after := #[{ on := 8, ground := Ground.data }], guard := none }) rfl (fun K hK => ?_) AllReadyH.nil
          go_wp2_with fail
          refine HMK.out.mono ?_
          rintro e w5 ⟨pa', pc', rfl, hx5, hnil5, hlt5, hb5⟩
          have L5 := hL.below (W' := w5) ⟨hb5.os, hb5.tape, hb5.output, hb5.size, hb5.block⟩
          refine hK.out _ _ (⟨L5.mid.nd.cell (i := 0) rfl, vec_range L5.good hlt eva, fun i hi => L5.room (j * 65) i (by omega)⟩) (fun hS1 => ?_)
          clear hK K
          refine wpAnyH_take (i := 10) (oi := { dst := some 106, op := Op.indexAddr 30 (Operand.tmp 99) (Operand.tmp 100), type := 0, pos := "zz_law_s7957a.go:118", after := #[{ on := 3, ground := Ground.data }, { on := 4, ground := Ground.data }, { on := 0, ground := Ground.phase }, { on := 1, ground := Ground.phase }, { on := 2, ground := Ground.phase }, { on := 3, ground := Ground.phase }, { on := 4, ground := Ground.phase }, { on := 5, ground := Ground.phase }, { on := 6, ground := Ground.phase }, { on := 7, ground := Ground.phase }, { on := 8, ground := Ground.phase }, { on := 9, ground := Ground.phase }], guard := none }) (v := .pointer (some ⟨vb, j * 65, none⟩)) rfl (by kernel_rfl) (by kernel_rfl) (by kernel_rfl) (fun _ _ _ h => h) (Or.inl ⟨by rfl, ?_⟩) hS1 ?_
          · intro w hSw; go_simp
          simp only [Act.put, List.setIfInBounds_toArray, List.set_cons_zero, List.set_cons_succ]
          refine wpAnyH_ready (rs := [11]) (by kernel_rfl) (by simp) ?_
          refine AllReadyH.cons (o := { dst := none, op := Op.store 36 (Operand.tmp 106) (Operand.tmp 105), type := 0, pos := "zz_law_s7957a.go:118", after := #[{ on := 10, ground := Ground.data }, { on := 9, ground := Ground.data }, { on := 9, ground := Ground.chain }, { on := 0, ground := Ground.phase }, { on := 1, ground := Ground.phase }, { on := 2, ground := Ground.phase }, { on := 3, ground := Ground.phase }, { on := 4, ground := Ground.phase }, { on := 5, ground := Ground.phase }, { on := 6, ground := Ground.phase }, { on := 7, ground := Ground.phase }, { on := 8, ground := Ground.phase }, { on := 9, ground := Ground.phase }], guard := none }) rfl (fun K hK => ?_) AllReadyH.nil
          rw [if_pos (by rfl)]
          refine wp_store_mid _ _ _ rfl vb (j * 65) ({ D.zs j with pa := pa', pc := pc' } : Qn).cells.toArray rfl rfl (by rw [show ({ D.zs j with pa := pa', pc := pc' } : Qn).cells.toArray.size = 65 from (cp_ok hz hnil5).size]; exact fun i hi => L5.room (j * 65) i (by omega)) (by rw [show ({ D.zs j with pa := pa', pc := pc' } : Qn).cells.toArray.size = 65 from (cp_ok hz hnil5).size]; exact info36) (all_oneCell_toArray (cells_one _)) ?_
          have L6 := L5.put hlt (cp_ok hz hnil5) ⟨rfl, hnil5⟩ hx5 (fun x e => ⟨by have := (hlt5 x e).1; have h9 : wr.heap.size ≤ x.block := this; omega, (hlt5 x e).2⟩)
          refine hK.out _ _ (⟨L6.mid.nd.cell (i := 0) rfl, vec_range L6.good hlt eva, fun i hi => L6.room (j * 65) i (by omega)⟩) (fun hS2 => ?_)
          clear hK K
          refine wpAnyH_done (by kernel_rfl) ?_ _
          refine NoPanic.normal ?_
          go_wp2
          exact ⟨⟨j + 1, _, by go_num, L6⟩, by simp [intOf]; omega⟩
        · have j1 : ¬ (j : Int) < (D.m : Int) := by omega
          obtain rfl : j = D.m := by omega
          go_wp2
          go_meet
          case rel =>
            refine ⟨by rw [eva], ⟨n, .slice (some ⟨vb, 0, none⟩) D.m D.m, co, oo, vb⟩, qs, rfl, ?_⟩
            exact hL.toPre.env (.inr ⟨_, rfl⟩) (fun i hi => by
              obtain ⟨a, b, c, d, _⟩ := hL.vec i hi
              exact ⟨a, b, c, fun x ex => (d x ex).2⟩) (fun i hi => (hL.vec i hi).2.2.2.2) ⟨fun e => by simp at e, fun e => by rw [eva] at e; simp at e⟩
  case rest =>
  obtain ⟨rfl, p, qs, rfl, hE⟩ := hcut
  have hM := marshal_any F (by rw [hE.bel.tape]; exact hF) hE.node
  rw [hE.text] at hM
  have HM := hide hM
  have HE := hide hE
  clear hM hE
  rename World => w5
  go_upto_region 23 with (fail)
  go_cut [21] from 107 to 108 (fun g W' => Row W' w5.heap.size g (tWant D) ∧ Below w5.heap.size w5 W')
  case first =>
    go_wp2_with fail
    refine HM.out.mono ?_
    rintro e w6 ⟨v6, rfl, hr6, hb6⟩
    go_wp2
    go_meet
    case rel => exact ⟨hr6, hb6⟩
  case rest =>
  obtain ⟨hr6, hb6⟩ := hcut
  rename_i hK
  exact hK _ _ (part_24 (HE.out.below hb6) hr6)
end Go.Proofs.YbulkfhtoFmt.A
