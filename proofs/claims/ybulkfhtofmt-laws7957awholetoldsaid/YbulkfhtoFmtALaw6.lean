/-
  The walk of the law A: the node is built.
-/
import Derived.Test.YbulkfhtoFmtALaw7
namespace Go.Proofs.YbulkfhtoFmt.A
open Go.RowKit Go.Extern.Stop Go.Stop Go.Extern
attribute [local go_sem ↓] Go.wp_at_zero Go.wp_at_succ

theorem build35 (w : World) (r c : List UInt8) (k : Int) (h1 : r.length = 16) (h2 : c.length = 16) :
    (Instr.build 35 #[(0, .agg (bc r).toArray), (1, .agg (bc c).toArray), (2, .int .i64 k)]).run Ybaf.prog w = .ok (.agg (bc r ++ (bc c ++ [Value.int .i64 k])).toArray) w := by
  obtain ⟨a0, a1, a2, a3, a4, a5, a6, a7, a8, a9, a10, a11, a12, a13, a14, a15, rfl⟩ := list16 r h1
  obtain ⟨b0, b1, b2, b3, b4, b5, b6, b7, b8, b9, b10, b11, b12, b13, b14, b15, rfl⟩ := list16 c h2
  kernel_rfl
theorem build39 (w : World) (q : Qn) (k : Int) (hq : q.Ok) :
    (Instr.build 39 #[(0, .agg q.cells.toArray), (1, .int .i64 k)]).run Ybaf.prog w = .ok (.agg (q.chal k).toArray) w := by
  obtain ⟨r, pa, t, pc, c, i, a⟩ := q
  obtain ⟨a0, a1, a2, a3, a4, a5, a6, a7, a8, a9, a10, a11, a12, a13, a14, a15, rfl⟩ := list16 r hq.hr
  obtain ⟨b0, b1, b2, b3, b4, b5, b6, b7, b8, b9, b10, b11, b12, b13, b14, b15, rfl⟩ := list16 c hq.hc
  obtain ⟨c0, c1, c2, c3, c4, c5, c6, c7, c8, c9, c10, c11, c12, c13, c14, c15, rfl⟩ := list16 i hq.hi
  obtain ⟨d0, d1, d2, d3, d4, d5, d6, d7, d8, d9, d10, d11, d12, d13, d14, d15, rfl⟩ := list16 a hq.ha
  kernel_rfl
theorem wpList_build {P : Program} {ops : Array Oper} {rest : List Oper} {op : Oper} {a : Act} {w : World} {Q : Exit → Act → World → Prop} (hgd : op.guard = none) (t : TypeId) (parts : Array (Nat × Operand)) (ho : op.op = .build t parts)
    (ps : Array (Nat × Value)) (hp : parts.toList.map (fun p => (p.1, a.eval p.2)) = ps.toList) {v : Value} (hr : (Instr.build t ps).run P w = .ok v w) (h : wpList P ops Q rest (a.put op.dst v) w) : wpList P ops Q (op :: rest) a w :=
  wpList_plain hgd fun K hK => by
    have e : parts.map (fun (p : Nat × Operand) => (p.1, a.eval p.2)) = ps := Array.ext' (by rw [Array.toList_map]; exact hp)
    unfold Oper.wp execOp
    simp only [ho]
    rw [e]
    simp only [Sem.run_bind, Sem.run_pure, Result.andThen_ok, hr]
    exact hK _ _ h

section
variable {w W : World} {D : Dat} {n co oo : Nat} {q0 : Qn} {c11 c13 : Nat}
theorem Good.flags (h : Good w D) (a b : Bool) : Good w { D with hc := a, ho := b } := ⟨h.lck, h.lik, h.wkk, h.wok, h.z0, h.x0, h.vn, h.vec, h.few⟩
theorem Pre.first (g0 : Good w D) (bel : Below w.heap.size w W) (b11 : Blk W c11 24 (bc D.ck ++ (bc D.ik ++ [.int .i64 D.kk]))) (b13 : Blk W c13 27 D.z0.cells) :
    Pre w (W.alloc (.cells #[.slice none 0 0, .pointer none, .bool D.rs, .int .i64 D.x, .pointer none] 34)) { D with hc := false, ho := false } W.heap.size 0 0 q0 (.slice none 0 0) c11 c13 :=
  ⟨⟨Blk.new W 34 [.slice none 0 0, .pointer none, .bool D.rs, .int .i64 D.x, .pointer none], fun e => by simp at e, fun e => by simp at e⟩, b11.alloc _, b13.alloc _, g0.flags _ _, bel.alloc bel.size _, bel.size, fun e => by simp at e⟩
theorem Pre.setCon (h : Pre w W { D with hc := false, ho := false } n 0 0 q0 (.slice none 0 0) c11 c13) (hh : D.hc = true) :
    Pre w ((W.alloc (.cells (bc D.ck ++ (bc D.ik ++ [Value.int .i64 D.kk])).toArray 35)).setCell ⟨n, 4, none⟩ (.pointer (some ⟨W.heap.size, 0, none⟩))) { D with ho := false } n W.heap.size 0 q0 (.slice none 0 0) c11 c13 := by
  have h1 := h.below ((Below.refl _ W).alloc (Nat.le_refl _) (.cells (bc D.ck ++ (bc D.ik ++ [Value.int .i64 D.kk])).toArray 35))
  have hb := Blk.new W 35 (bc D.ck ++ (bc D.ik ++ [Value.int .i64 D.kk]))
  have hnl := h.mid.nd.lt
  have hs := h1.mid.nd.store 4 (.pointer (some ⟨W.heap.size, 0, none⟩))
  refine ⟨⟨?_, fun _ => hb.other (a := ⟨n, 4, none⟩) (by show W.heap.size ≠ n; omega) _, fun e => by simp at e⟩, h1.b11.other (h1.b11.ne h1.mid.nd (by decide)) _, h1.b13.other (h1.b13.ne h1.mid.nd (by decide)) _, ⟨h.g0.lck, h.g0.lik, h.g0.wkk, h.g0.wok, h.g0.z0, h.g0.x0, h.g0.vn, h.g0.vec, h.g0.few⟩, h1.bel.setCell h.hn _, h.hn, fun e => by simp at e⟩
  have e : (if ({ D with ho := false } : Dat).hc then (Value.pointer (some ⟨W.heap.size, 0, none⟩)) else .pointer none) = .pointer (some ⟨W.heap.size, 0, none⟩) := by
    show (if D.hc then _ else _) = _
    rw [hh]; rfl
  rw [e]
  exact hs
theorem Pre.setOut (h : Pre w W { D with ho := false } n co 0 q0 (.slice none 0 0) c11 c13) (hh : D.ho = true) {q : Qn} (hc : Cp D.z0 q) (hq : q.Ok) (hx : Xs W q.pa q.t q.pc) (hl : ∀ x, q.pa = some x → x.block < W.heap.size ∧ x.block ≠ n) :
    Pre w ((W.alloc (.cells (q.chal D.ok).toArray 39)).setCell ⟨n, 1, none⟩ (.pointer (some ⟨W.heap.size, 0, none⟩))) D n co W.heap.size q (.slice none 0 0) c11 c13 := by
  have hb0 : Below W.heap.size W (W.alloc (.cells (q.chal D.ok).toArray 39)) := (Below.refl _ W).alloc (Nat.le_refl _) _
  have h1 := h.below hb0
  have hb := Blk.new W 39 (q.chal D.ok)
  have hnl := h.mid.nd.lt
  have hs := h1.mid.nd.store 1 (.pointer (some ⟨W.heap.size, 0, none⟩))
  have hg := grown_set (W.alloc (.cells (q.chal D.ok).toArray 39)) ⟨n, 1, none⟩ (.pointer (some ⟨W.heap.size, 0, none⟩))
  refine ⟨⟨?_, fun e => (h1.mid.con e).other ((h1.mid.con e).ne h1.mid.nd (by decide)) _, fun _ => ⟨hb.other (a := ⟨n, 1, none⟩) (by show W.heap.size ≠ n; omega) _, hc, hq, (hx.below hb0).kept hg (fun x ex => by have := (hl x ex).2; simpa using this), fun x ex => Nat.lt_of_lt_of_le (hl x ex).1 (Nat.le_trans hb0.size hg.size)⟩⟩, h1.b11.other (h1.b11.ne h1.mid.nd (by decide)) _, h1.b13.other (h1.b13.ne h1.mid.nd (by decide)) _, ⟨h.g0.lck, h.g0.lik, h.g0.wkk, h.g0.wok, h.g0.z0, h.g0.x0, h.g0.vn, h.g0.vec, h.g0.few⟩, h1.bel.setCell h.hn _, h.hn, fun _ x ex => (hl x ex).2⟩
  have e : (if D.ho then (Value.pointer (some ⟨W.heap.size, 0, none⟩)) else .pointer none) = .pointer (some ⟨W.heap.size, 0, none⟩) := by rw [hh]; rfl
  rw [e]
  exact hs
end

set_option maxRecDepth 100000 in
set_option maxHeartbeats 16000000 in
theorem part_12 {w W : World} {D : Dat} {c11 c13 : Nat} {u3 u5 u8 u9 u10 u12 u14 u15 u16 u17 u18 u19 u20 u21 u22 u23 u24 u25 u26 u27 u28 u29 u30 u31 u32 u33 u34 u35 u36 u37 u38 u39 u40 u41 u42 u43 u44 u45 u46 u47 u48 u49 u50 u51 u52 u53 u54 u55 u56 u57 u58 u59 u60 u61 u62 u63 u64 u65 u66 u67 u68 u69 u70 u71 u72 u73 u74 u75 u76 u77 u78 u79 u80 u81 u82 u83 u84 u85 u86 u87 u88 u89 u90 u91 u92 u93 u94 u95 u96 u97 u98 u99 u100 u101 u102 u103 u104 u105 u106 u107 u108 u109 u110 u111 u112 u113 u114 u115 u116 u117 u118 u119 u120 u121 u122 u123 u124 u125 u126 u127 u128 u129 u130 u131 u132 u133 u134 u135 u136 u137 u138 u139 u140 u141 u142 u143 u144 u145 u146 u147 u148 u149 u150 u151 u152 u153 u154 u155 u156 u157 u158 u159 u160 u161 u162 u163 u164 u165 u166 u167 u168 u169 u170 u171 u172 u173 u174 u175 u176 u177 u178 u179 u180 u181 u182 u183 u184 u185 u186 u187 u188 u189 u190 u191 u192 u193 u194 u195 u196 u197 u198 u199 u200 u201 u202 u203 u204 u205 u206 u207 u208 u209 u210 u211 u212 u213 u214 u215 u216 u217 u218 u219 u220 u221 u222 u223 u224 u225 u226 u227 u228 u229 u230 u231 u232 u233 u234 u235 u236 u237 u238 u239 u240 u241 u242 u243 u244 u245 u246 u247 u248 u249 u250 u251 u252 u253 u254 u255 u256 u257 u258 u259 u260 u261 u262 u263 u264 u265 u266 u267 u268 u269 u270 u271 u272 u273 u274 u275 u276 u277 u278 u279 u280 u281 u282 u283 u284 u285 u286 u287 u288 u289 u290 u291 u292 u293 u294 u295 u296 u297 u298 u299 u300 u301 u302 u303 u304 u305 u306 u307 u308 u309 u310 u311 u312 u313 u314 u315 u316 u317 u318 u319 u320 u321 : Value} (F : Interp) (hF : F.told.answers w.tape) (g0 : Good w D) (bel : Below w.heap.size w W) (b11 : Blk W c11 24 (bc D.ck ++ (bc D.ik ++ [.int .i64 D.kk]))) (b13 : Blk W c13 27 D.z0.cells) :
    Code.wp Ybaf.prog (piece Ybaf.f3.body 12) (bodyPost Ybaf.prog Ybaf.f3 (Yes w)) ⟨#[.int .i64 D.x, .bool D.rs, .bool D.hc, u3, .bool D.ho, u5, .int .i64 D.ok, .slice D.va D.m D.vcap, u8, u9, u10, .pointer (some ⟨c11, 0, none⟩), u12, .pointer (some ⟨c13, 0, none⟩), u14, u15, u16, u17, u18, u19, u20, u21, u22, u23, u24, u25, u26, u27, u28, u29, u30, u31, u32, u33, u34, u35, u36, u37, u38, u39, u40, u41, u42, u43, u44, u45, u46, u47, u48, u49, u50, u51, u52, u53, u54, u55, u56, u57, u58, u59, u60, u61, u62, u63, u64, u65, u66, u67, u68, u69, u70, u71, u72, u73, u74, u75, u76, u77, u78, u79, u80, u81, u82, u83, u84, u85, u86, u87, u88, u89, u90, u91, u92, u93, u94, u95, u96, u97, u98, u99, u100, u101, u102, u103, u104, u105, u106, u107, u108, u109, u110, u111, u112, u113, u114, u115, u116, u117, u118, u119, u120, u121, u122, u123, u124, u125, u126, u127, u128, u129, u130, u131, u132, u133, u134, u135, u136, u137, u138, u139, u140, u141, u142, u143, u144, u145, u146, u147, u148, u149, u150, u151, u152, u153, u154, u155, u156, u157, u158, u159, u160, u161, u162, u163, u164, u165, u166, u167, u168, u169, u170, u171, u172, u173, u174, u175, u176, u177, u178, u179, u180, u181, u182, u183, u184, u185, u186, u187, u188, u189, u190, u191, u192, u193, u194, u195, u196, u197, u198, u199, u200, u201, u202, u203, u204, u205, u206, u207, u208, u209, u210, u211, u212, u213, u214, u215, u216, u217, u218, u219, u220, u221, u222, u223, u224, u225, u226, u227, u228, u229, u230, u231, u232, u233, u234, u235, u236, u237, u238, u239, u240, u241, u242, u243, u244, u245, u246, u247, u248, u249, u250, u251, u252, u253, u254, u255, u256, u257, u258, u259, u260, u261, u262, u263, u264, u265, u266, u267, u268, u269, u270, u271, u272, u273, u274, u275, u276, u277, u278, u279, u280, u281, u282, u283, u284, u285, u286, u287, u288, u289, u290, u291, u292, u293, u294, u295, u296, u297, u298, u299, u300, u301, u302, u303, u304, u305, u306, u307, u308, u309, u310, u311, u312, u313, u314, u315, u316, u317, u318, u319, u320, u321], []⟩ W := by
  conv => arg 2; whnf; dsimp only
  have hP := Pre.first (q0 := Qn.zero) g0 bel b11 b13
  have HG := hide g0
  clear bel b11 b13 g0
  go_upto_if 61 with (fail)
  obtain ⟨n, en⟩ : ∃ n, n = W.heap.size := ⟨_, rfl⟩
  rw [← en] at hP ⊢
  generalize (W.alloc (.cells #[.slice none 0 0, .pointer none, .bool D.rs, .int .i64 D.x, .pointer none] 34)) = w1 at hP ⊢
  clear en
  have hck := HG.out.lck
  have hik := HG.out.lik
  go_cut [2] from 61 to 72 (fun b W' => b = .bool D.hc ∧ ∃ co, Pre w W' { D with ho := false } n co 0 Qn.zero (.slice none 0 0) c11 c13)
  case first =>
    cases eh : D.hc with
    | true =>
      obtain ⟨s1, s2, s3⟩ := ctx_S hP.b11 hck hik
      have hC := hP.setCon eh
      have hbd := build35 w1 D.ck D.ik D.kk hck hik
      have cn := (hP.mid.below ((Below.refl _ w1).alloc (Nat.le_refl _) (.cells (bc D.ck ++ (bc D.ik ++ [Value.int .i64 D.kk])).toArray 35))).nd.cell (i := 4) rfl
      have fn := (hP.mid.below ((Below.refl _ w1).alloc (Nat.le_refl _) (.cells (bc D.ck ++ (bc D.ik ++ [Value.int .i64 D.kk])).toArray 35))).nd.frozen 4
      have HC := hide hC
      clear hC
      go_wp2_with (first | (refine wpList_load_mid (by rfl) 22 _ (by rfl) c11 0 (by rfl) (bc D.ck) _ s1 Ybaf.underlying22 rfl (by rw [bc_length, hck]; exact info22) ?_) | (refine wpList_load_mid (by rfl) 22 _ (by rfl) c11 16 (by rfl) (bc D.ik) _ s2 Ybaf.underlying22 rfl (by rw [bc_length, hik]; exact info22) ?_) | (refine wpList_build (by rfl) 35 _ (by rfl) #[(0, .agg (bc D.ck).toArray), (1, .agg (bc D.ik).toArray), (2, .int .i64 D.kk)] (by rfl) hbd ?_))
      go_meet
      case rel => exact ⟨by rw [eh], _, HC.out⟩
    | false =>
      go_wp2
      go_meet
      case rel =>
        refine ⟨by rw [eh], 0, ?_⟩
        have e : ({ D with ho := false } : Dat) = { D with hc := false, ho := false } := by
          cases D
          simp at eh
          simp [eh]
        rw [e]
        exact hP
  case rest =>
  clear hP
  obtain ⟨rfl, co, hP⟩ := hcut
  rename World => w2
  go_upto_if 73 with (fail)
  go_cut [4] from 73 to 81 (fun b W' => b = .bool D.ho ∧ ∃ oo q0, Pre w W' D n co oo q0 (.slice none 0 0) c11 c13)
  case first =>
    cases eh : D.ho with
    | true =>
      have rz : w2.rangeAt c13 0 D.z0.cells := hP.b13.all
      have hz := HG.out.z0
      have HMK := hide (mk_any hz hP.good.x0)
      go_wp2_with (refine wpList_load_mid (by rfl) 27 _ (by rfl) c13 0 (by rfl) D.z0.cells _ rz Ybaf.underlying27 rfl (by rw [hz.size]; exact info27) ?_)
      refine HMK.out.mono ?_
      rintro e w3 ⟨pa', pc', rfl, hx3, hnil3, hlt3, hb3⟩
      clear rz
      have hP3 := hP.below hb3
      have hq := cp_ok (pc := pc') hz hnil3
      have hnl := hP.mid.nd.lt
      have hO := hP3.setOut eh (q := { D.z0 with pa := pa', pc := pc' }) ⟨rfl, hnil3⟩ hq hx3 (fun x ex => ⟨(hlt3 x ex).2, by have := (hlt3 x ex).1; omega⟩)
      have hbd := build39 w3 _ D.ok hq
      have cn := (hP3.mid.below ((Below.refl _ w3).alloc (Nat.le_refl _) (.cells (({ D.z0 with pa := pa', pc := pc' } : Qn).chal D.ok).toArray 39))).nd.cell (i := 1) rfl
      have fn := (hP3.mid.below ((Below.refl _ w3).alloc (Nat.le_refl _) (.cells (({ D.z0 with pa := pa', pc := pc' } : Qn).chal D.ok).toArray 39))).nd.frozen 1
      have HO := hide hO
      clear hO hP3
      go_wp2_with (refine wpList_build (by rfl) 39 _ (by rfl) #[(0, .agg ({ D.z0 with pa := pa', pc := pc' } : Qn).cells.toArray), (1, .int .i64 D.ok)] (by rfl) hbd ?_)
      go_meet
      case rel => exact ⟨by rw [eh], _, _, HO.out⟩
    | false =>
      go_wp2
      go_meet
      case rel =>
        refine ⟨by rw [eh], 0, Qn.zero, ?_⟩
        have e : ({ D with ho := false } : Dat) = D := by
          cases D
          simp at eh
          simp [eh]
        rw [← e]
        exact hP
  case rest =>
  clear hP
  obtain ⟨rfl, oo, q0, hP⟩ := hcut
  rename_i hK
  exact hK _ _ (part_17 F hF hP)
end Go.Proofs.YbulkfhtoFmt.A
