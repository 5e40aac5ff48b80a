/-
  The walk of the law A: the two texts are one.
-/
import Derived.Test.YbulkfhtoFmtALawC
namespace Go.Proofs.YbulkfhtoFmt.A
open Go.RowKit Go.Extern.Stop Go.Stop Go.Extern
attribute [local go_sem ↓] Go.wp_at_zero Go.wp_at_succ

theorem Row.xs {w : World} {B : Nat} {v : Value} {l : List UInt8} (h : Row w B v l) : ∃ a cap, v = .slice a l.length cap ∧ Xs w a l cap := by
  rcases h.2 with ⟨rfl, e⟩ | ⟨g, cap, cur, rfl, _⟩
  · have e0 : l = [] := List.eq_nil_of_length_eq_zero e
    subst e0
    exact ⟨none, 0, rfl, fun _ => ⟨rfl, rfl⟩, fun x e => by simp at e⟩
  · exact ⟨_, cap, rfl, fun e => by simp at e, fun x e j u hu => by cases e; exact World.ownsRow.cells h (g := g) rfl j u hu⟩

set_option maxRecDepth 100000 in
set_option maxHeartbeats 16000000 in
theorem part_53 {w W : World} {D : Dat} {p : Pl} {q0 : Qn} {qs : Nat → Qn} {c11 c13 : Nat} {B1 B2 : Nat} {gv wv : Value} {u3 u5 u8 u9 u10 u12 u14 u15 u16 u17 u18 u20 u23 u24 u25 u26 u27 u28 u29 u30 u31 u32 u33 u34 u35 u36 u37 u38 u39 u40 u41 u42 u43 u44 u45 u46 u47 u48 u49 u50 u51 u52 u53 u54 u55 u56 u57 u58 u59 u60 u61 u62 u63 u64 u65 u66 u67 u68 u69 u70 u71 u72 u73 u74 u75 u76 u77 u78 u79 u80 u81 u82 u83 u84 u85 u86 u87 u88 u89 u90 u91 u92 u93 u94 u95 u96 u97 u98 u99 u100 u101 u102 u103 u104 u105 u106 u107 u108 u109 u110 u111 u112 u113 u114 u115 u116 u117 u118 u119 u120 u121 u122 u123 u124 u125 u126 u127 u128 u129 u130 u131 u132 u133 u134 u135 u136 u137 u138 u139 u140 u141 u142 u143 u144 u145 u146 u147 u148 u149 u150 u151 u152 u153 u154 u155 u156 u157 u158 u159 u160 u161 u162 u163 u164 u165 u166 u167 u168 u169 u170 u171 u172 u173 u174 u175 u176 u177 u178 u179 u180 u181 u182 u183 u184 u185 u186 u187 u188 u189 u190 u191 u192 u193 u194 u195 u196 u197 u198 u199 u200 u201 u202 u203 u204 u205 u206 u207 u208 u209 u210 u211 u212 u213 u214 u215 u216 u217 u218 u219 u220 u221 u222 u223 u224 u225 u226 u227 u228 u229 u230 u231 u232 u233 u234 u235 u236 u237 u238 u239 u240 u241 u242 u243 u244 u245 u246 u247 u248 u249 u250 u251 u252 u253 u254 u255 u256 u257 u258 u259 u260 u261 u262 u263 u264 u265 u266 u267 u268 u269 u270 u271 u272 u273 u274 u275 u276 u277 u278 u279 u280 u281 u282 u283 u284 u285 u286 u287 u288 u289 u290 u291 u292 u293 u294 u295 u296 u297 u298 u299 u300 u301 u302 u303 u304 u305 u306 u307 u308 u309 u310 u311 u312 u313 u314 u315 u316 u317 u318 u319 u320 u321 : Value} (h : Env w W D p q0 qs c11 c13) (hg : Row W B1 gv (tWant D)) (hw : Row W B2 wv (tWant D)) :
    Code.wp Ybaf.prog (piece Ybaf.f3.body 53) (bodyPost Ybaf.prog Ybaf.f3 (Yes w)) ⟨#[.int .i64 D.x, .bool D.rs, .bool D.hc, u3, .bool D.ho, u5, .int .i64 D.ok, .slice D.va D.m D.vcap, u8, u9, u10, .pointer (some ⟨c11, 0, none⟩), u12, .pointer (some ⟨c13, 0, none⟩), u14, u15, u16, u17, u18, .pointer (some ⟨p.n, 0, none⟩), u20, gv, wv, u23, u24, u25, u26, u27, u28, u29, u30, u31, u32, u33, u34, u35, u36, u37, u38, u39, u40, u41, u42, u43, u44, u45, u46, u47, u48, u49, u50, u51, u52, u53, u54, u55, u56, u57, u58, u59, u60, u61, u62, u63, u64, u65, u66, u67, u68, u69, u70, u71, u72, u73, u74, u75, u76, u77, u78, u79, u80, u81, u82, u83, u84, u85, u86, u87, u88, u89, u90, u91, u92, u93, u94, u95, u96, u97, u98, u99, u100, u101, u102, u103, u104, u105, u106, u107, u108, u109, u110, u111, u112, u113, u114, u115, u116, u117, u118, u119, u120, u121, u122, u123, u124, u125, u126, u127, u128, u129, u130, u131, u132, u133, u134, u135, u136, u137, u138, u139, u140, u141, u142, u143, u144, u145, u146, u147, u148, u149, u150, u151, u152, u153, u154, u155, u156, u157, u158, u159, u160, u161, u162, u163, u164, u165, u166, u167, u168, u169, u170, u171, u172, u173, u174, u175, u176, u177, u178, u179, u180, u181, u182, u183, u184, u185, u186, u187, u188, u189, u190, u191, u192, u193, u194, u195, u196, u197, u198, u199, u200, u201, u202, u203, u204, u205, u206, u207, u208, u209, u210, u211, u212, u213, u214, u215, u216, u217, u218, u219, u220, u221, u222, u223, u224, u225, u226, u227, u228, u229, u230, u231, u232, u233, u234, u235, u236, u237, u238, u239, u240, u241, u242, u243, u244, u245, u246, u247, u248, u249, u250, u251, u252, u253, u254, u255, u256, u257, u258, u259, u260, u261, u262, u263, u264, u265, u266, u267, u268, u269, u270, u271, u272, u273, u274, u275, u276, u277, u278, u279, u280, u281, u282, u283, u284, u285, u286, u287, u288, u289, u290, u291, u292, u293, u294, u295, u296, u297, u298, u299, u300, u301, u302, u303, u304, u305, u306, u307, u308, u309, u310, u311, u312, u313, u314, u315, u316, u317, u318, u319, u320, u321], []⟩ W := by
  conv => arg 2; whnf; dsimp only
  obtain ⟨ga, gc, rfl, xg⟩ := hg.xs
  obtain ⟨wa, wc', rfl, xw⟩ := hw.xs
  have HEQ := hide (equal_any xg xw)
  have c3 := h.node.nd.cell (i := 3) rfl
  have c2 := h.node.nd.cell (i := 2) rfl
  have e3 : (D.nod q0 qs).x = D.x := rfl
  have e2 : (D.nod q0 qs).rs = D.rs := rfl
  rw [e3] at c3
  rw [e2] at c2
  have HE := hide h
  clear e3 e2 h hg hw xg xw
  go_wp2_with fail
  refine HEQ.out.mono ?_
  rintro e w2 ⟨rfl, ew⟩
  obtain rfl := ew.symm
  clear ew HEQ
  go_upto_if 203 with (fail)
  go_cut [] from 203 to 203 (fun W' => W' = W)
  case first =>
    go_wp2
    go_meet
    case rel => rfl
  case rest =>
  obtain rfl := hcut.symm
  rename_i hK
  exact hK _ _ (part_57 HE.out)
end Go.Proofs.YbulkfhtoFmt.A
