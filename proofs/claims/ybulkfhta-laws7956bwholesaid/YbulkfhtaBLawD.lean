/-
  The walk of the law B: the least of the candidates.
-/
import Derived.Test.YbulkfhtaBLawE
namespace Go.Proofs.Ybulkfhta.B
open Go.RowKit
attribute [local go_sem ↓] Go.wp_at_zero Go.wp_at_succ

def rT (cs : List Cand) : List Value := cs.map fun c => .int .i64 c.1
def rS (cs : List Cand) : List Value := cs.map fun c => .string c.2

/-- The candidates as the law lists them. -/
structure Cds (W : World) (x : Ld) (tsv ssv : Value) (cs : List Cand) : Prop where
  ts : W.ownsRow 0 2 1 tsv cs.length (rT cs)
  ss : W.ownsRow 0 57 1 ssv cs.length (rS cs)
  len : cs.length ≤ 4
  wf : ∀ c, c ∈ cs → wf64 c.1

theorem Cds.below {W W' : World} {x : Ld} {tsv ssv : Value} {cs : List Cand} (h : Cds W x tsv ssv cs) (hb : Below W.heap.size W W') : Cds W' x tsv ssv cs :=
  ⟨h.ts.kept (below_size hb) (by cases tsv.ownBlock <;> simp), h.ss.kept (below_size hb) (by cases ssv.ownBlock <;> simp), h.len, h.wf⟩
theorem Cds.drewN {W : World} {x : Ld} {tsv ssv : Value} {cs : List Cand} (h : Cds W x tsv ssv cs) (k : Nat) : Cds (W.drewN k) x tsv ssv cs := ⟨h.ts, h.ss, h.len, h.wf⟩

theorem Cds.tcell {W : World} {x : Ld} {g tc : Nat} {ssv : Value} {cs : List Cand} (h : Cds W x (.slice (some ⟨g, 0, none⟩) cs.length tc) ssv cs) {i : Nat} {z : Cand} (hz : cs[i]? = some z) : W.cell? ⟨g, i, none⟩ = some (.int .i64 z.1) := by
  have hi : i < cs.length := (List.getElem?_eq_some_iff.1 hz).1
  rw [World.ownsRow.cellAt h.ts i (by omega)]
  simp [rT, hz]
theorem Cds.scell {W : World} {x : Ld} {g tc : Nat} {tsv : Value} {cs : List Cand} (h : Cds W x tsv (.slice (some ⟨g, 0, none⟩) cs.length tc) cs) {i : Nat} {z : Cand} (hz : cs[i]? = some z) : W.cell? ⟨g, i, none⟩ = some (.string z.2) := by
  have hi : i < cs.length := (List.getElem?_eq_some_iff.1 hz).1
  rw [World.ownsRow.cellAt h.ss i (by omega)]
  simp [rS, hz]

def best (cs : List Cand) : Option Cand := cs.foldl cons none

theorem best_take {cs : List Cand} {i : Nat} {y z : Cand} (hz : cs[i]? = some z) (h : best (cs.take i) = some y) : best (cs.take (i + 1)) = some (if z.1 < y.1 then z else y) := by
  unfold best at *
  rw [List.take_add_one, hz, List.foldl_append, h]
  rfl

set_option maxRecDepth 100000 in
set_option maxHeartbeats 16000000 in
theorem part_43 {w W : World} {L q0 q5 : Nat} {x : Ld} {a0 a5 : Option Addr} {xs : Nat → Int} {ga : Nat} {tsv ssv : Value} {cs : List Cand} {u1 u2 u3 u4 u7 u8 u9 u10 u11 u12 u13 u14 u20 u21 u22 u23 u24 u29 u30 u31 u32 u33 u34 u35 u36 u37 u38 u39 u40 u41 u42 u43 u44 u45 u46 u47 u48 u49 u50 u51 u52 u53 u54 u55 u56 u57 u58 u59 u60 u61 u62 u63 u64 u65 u66 u67 u68 u69 u70 u71 u72 u73 u74 u75 u76 u77 u78 u79 u80 u81 u82 u83 u84 u85 u86 u87 u88 u89 u90 u91 u92 u93 u94 u95 u96 u97 u98 u99 u100 u101 u102 u103 u104 u105 u106 u107 u108 u109 u110 u111 u112 u113 u114 u115 u116 u117 u118 u119 u120 u121 u122 u123 u124 u125 u126 u127 u128 u129 u130 u131 u132 u133 u134 u135 u136 u137 u138 u139 u140 u141 u142 u143 u144 u145 u146 u147 u148 u149 u150 u151 u152 u153 u154 u155 u156 u157 u158 u159 u160 u161 u162 u163 u164 u165 u166 u167 u168 u169 u170 u171 u172 u173 u174 u175 u176 u177 u178 u179 u180 u181 u182 u183 u184 u185 u186 u187 u188 u189 u190 u191 u192 u193 u194 u195 u196 u197 u198 u199 u200 u201 u202 u203 u204 u205 u206 u207 u208 u209 u210 u211 u212 u213 u214 u215 u216 u217 u218 u219 u220 u221 u222 u223 u224 u225 u226 u227 u228 u229 u230 u231 u232 u233 u234 u235 u236 u237 u238 u239 u240 u241 u242 u243 u244 u245 u246 u247 u248 u249 u250 u251 u252 u253 u254 u255 u256 u257 u258 u259 u260 u261 u262 u263 u264 u265 u266 u267 u268 u269 u270 u271 u272 u273 u274 : Value} (ok : Ok x xs) (h : Env w W L x a0 a5 xs) (ha : TVar W ga (timeOf (nextO x))) (hc : Cds W x tsv ssv cs) (hbest : best cs = nextO x) :
    Code.wp Yba.prog (piece Yba.f4.body 43) (bodyPost Yba.prog Yba.f4 (Yes w)) ⟨#[.slice a0 x.n q0, u1, u2, u3, u4, .slice a5 x.m q5, .bool x.lv, u7, u8, u9, u10, u11, u12, u13, u14, .int .i64 x.sf, .int .i64 (x.nS : Int), .int .i64 (x.k : Int), .int .i64 x.d, .pointer (some ⟨L, 0, none⟩), u20, u21, u22, u23, u24, .pointer (some ⟨ga, 0, none⟩), .string (stepOf (nextO x)), tsv, ssv, u29, u30, u31, u32, u33, u34, u35, u36, u37, u38, u39, u40, u41, u42, u43, u44, u45, u46, u47, u48, u49, u50, u51, u52, u53, u54, u55, u56, u57, u58, u59, u60, u61, u62, u63, u64, u65, u66, u67, u68, u69, u70, u71, u72, u73, u74, u75, u76, u77, u78, u79, u80, u81, u82, u83, u84, u85, u86, u87, u88, u89, u90, u91, u92, u93, u94, u95, u96, u97, u98, u99, u100, u101, u102, u103, u104, u105, u106, u107, u108, u109, u110, u111, u112, u113, u114, u115, u116, u117, u118, u119, u120, u121, u122, u123, u124, u125, u126, u127, u128, u129, u130, u131, u132, u133, u134, u135, u136, u137, u138, u139, u140, u141, u142, u143, u144, u145, u146, u147, u148, u149, u150, u151, u152, u153, u154, u155, u156, u157, u158, u159, u160, u161, u162, u163, u164, u165, u166, u167, u168, u169, u170, u171, u172, u173, u174, u175, u176, u177, u178, u179, u180, u181, u182, u183, u184, u185, u186, u187, u188, u189, u190, u191, u192, u193, u194, u195, u196, u197, u198, u199, u200, u201, u202, u203, u204, u205, u206, u207, u208, u209, u210, u211, u212, u213, u214, u215, u216, u217, u218, u219, u220, u221, u222, u223, u224, u225, u226, u227, u228, u229, u230, u231, u232, u233, u234, u235, u236, u237, u238, u239, u240, u241, u242, u243, u244, u245, u246, u247, u248, u249, u250, u251, u252, u253, u254, u255, u256, u257, u258, u259, u260, u261, u262, u263, u264, u265, u266, u267, u268, u269, u270, u271, u272, u273, u274], []⟩ W := by
  conv => arg 2; whnf; dsimp only
  have l0 : (0 : Int) ≤ (cs.length : Int) := by omega
  have l1 : (cs.length : Int) ≤ 4 := by have := hc.len; omega
  obtain ⟨ta, tc, rfl⟩ := slice_form hc.ts
  obtain ⟨sa, sc, rfl⟩ := slice_form hc.ss
  obtain ⟨gw, eg⟩ : ∃ g, g = W.heap.size := ⟨_, rfl⟩
  have hB1 : Below W.heap.size W (W.alloc (.cells [Value.int .u64 0, .int .i64 0, .pointer none].toArray 37)) := (Below.refl _ W).alloc (Nat.le_refl _) _
  have hw1 : TVar (W.alloc (.cells [Value.int .u64 0, .int .i64 0, .pointer none].toArray 37)) W.heap.size 0 := Blk.new W 37 _
  have h1 := h.below hB1
  have hc1 := hc.below hB1
  have ha1 := ha.below hB1 ha.lt
  have hga : ga < gw := by rw [eg]; exact ha.lt
  go_upto_if 178 with (fail)
  generalize (W.alloc (.cells [Value.int .u64 0, .int .i64 0, .pointer none].toArray 37)) = w1 at hB1 hw1 ⊢
  rw [← eg] at hw1 hB1 ⊢
  have KE : ∀ W', Below gw W W' → Env w W' L x a0 a5 xs ∧ Cds W' x (.slice ta cs.length tc) (.slice sa cs.length sc) cs ∧ TVar W' ga (timeOf (nextO x)) := fun W' hb => by
    rw [eg] at hb
    exact ⟨h.below hb, hc.below hb, ha.below hb ha.lt⟩
  have HK := hide KE
  have hcwf := hc.wf
  have HWF := hide hcwf
  have HBe := hide hbest
  clear hcwf h hc ha eg h1 hc1 ha1 KE hbest
  go_cut [32, 33, 34, 35] from 178 to 203 (fun p s _ _ W' => p = .pointer (some ⟨gw, 0, none⟩) ∧ s = .string (stepOf (nextO x)) ∧ Below gw W W' ∧ TVar W' gw (timeOf (nextO x)))
  case first =>
    by_cases hl : 0 < cs.length
    · have hl' : (0 : Int) < (cs.length : Int) := by omega
      obtain ⟨gt, tc', et, _⟩ := row_form (HK.out _ hB1).2.1.ts hl
      cases et
      obtain ⟨gs, sc', es, _⟩ := row_form (HK.out _ hB1).2.1.ss hl
      cases es
      go_wp2_with fail
      go_loopw [34, 35] (fun b i W' => ∃ (bn j : Nat) (y : Cand), b = .int .i64 (bn : Int) ∧ i = .int .i64 (j : Int) ∧ j ≤ cs.length ∧ bn < cs.length ∧ cs[bn]? = some y ∧ best (cs.take j) = some y ∧ Below gw W W' ∧ TVar W' gw 0) (fun _ i _ => cs.length - (intOf i).toNat)
      case atStart =>
        obtain ⟨y, cs', rfl⟩ := List.exists_cons_of_length_pos hl
        exact ⟨0, 1, y, rfl, rfl, by simp, by simp, rfl, rfl, hB1, hw1⟩
      case round =>
        clear hB1 hw1
        obtain ⟨bn, j, y, rfl, rfl, hj, hbl, hy, hbj, hB1, hw1⟩ := hrel
        have HY := hide hy
        have HBJ := hide hbj
        clear hy hbj
        have b0 : (0 : Int) ≤ (bn : Int) := by omega
        have b1 : (bn : Int) < (cs.length : Int) := by omega
        have b2 : (bn : Int) ≤ 4 := by omega
        have j0 : (0 : Int) ≤ (j : Int) := by omega
        have j2 : (j : Int) ≤ 4 := by omega
        have cb := (HK.out _ hB1).2.1.tcell HY.out
        by_cases hlt : j < cs.length
        · have j1 : (j : Int) < (cs.length : Int) := by omega
          obtain ⟨z, hz⟩ : ∃ z, cs[j]? = some z := ⟨cs[j], List.getElem?_eq_getElem hlt⟩
          have cj := (HK.out _ hB1).2.1.tcell hz
          have HB' := hide (best_take hz HBJ.out)
          have HZ := hide hz
          clear hz
          go_upto_region 50 with (fail)
          go_cut [193] from 185 to 193 (fun c W' => c = .bool (decide (z.1 < y.1)) ∧ ∃ q, W' = wr.drewN q)
          case first =>
            go_quiet (fail)
            go_wp2
            go_meet
            case rel => exact ⟨rfl, _, rfl⟩
          case rest =>
          obtain ⟨rfl, q, rfl⟩ := hcut
          by_cases hzy : z.1 < y.1
          · rw [if_pos hzy] at HB'
            rw [show decide (z.1 < y.1) = true by simpa using hzy]
            clear hzy
            go_wp2
            exact ⟨⟨j, j + 1, z, rfl, by go_num, by omega, hlt, HZ.out, HB'.out, below_drewN hB1 _, hw1⟩, by simp [intOf]; omega⟩
          · rw [if_neg hzy] at HB'
            rw [show decide (z.1 < y.1) = false by simpa using hzy]
            clear hzy
            go_wp2
            exact ⟨⟨bn, j + 1, y, rfl, by go_num, by omega, hbl, HY.out, HB'.out, below_drewN hB1 _, hw1⟩, by simp [intOf]; omega⟩
        · have j1 : ¬ (j : Int) < (cs.length : Int) := by omega
          have e1 : nextO x = some y := by rw [← HBe.out, ← HBJ.out, List.take_of_length_le (by omega)]
          have HE1 := hide e1
          have hym : y ∈ cs := List.mem_of_getElem? HY.out
          have HB := hide (bat_any (W := wr) (n := y.1) (HWF.out y hym).1 (HWF.out y hym).2)
          unfold tv at HB
          clear e1 hym
          go_wp2_with fail
          refine HB.out.mono ?_
          rintro e w3 ⟨rfl, hb3⟩
          have hB3 : Below gw W w3 := hB1.trans (hb3.mono (Nat.le_of_lt hw1.lt))
          have hw3 := hw1.below hb3 hw1.lt
          have cs3 := (HK.out _ hB3).2.1.scell HY.out
          have wf3 := hw3.frozen
          have c0 := hw3.cell (i := 0) rfl
          have c1 := hw3.cell (i := 1) rfl
          have c2 := hw3.cell (i := 2) rfl
          have hne : ¬ gs = gw := fun e => own_ne (HK.out _ hB3).2.1.ss hw3 (by decide) (by rw [e]; rfl)
          have hne' : ¬ gw = gs := fun e => hne e.symm
          go_wp2
          go_meet
          case rel =>
            have k1 : Below gw W (w3.setCell ⟨gw, 0, none⟩ (.int .u64 (y.1 % 1000000000))) := hB3.setCell (Nat.le_refl _) _
            have k2 : Below gw W ((w3.setCell ⟨gw, 0, none⟩ (.int .u64 (y.1 % 1000000000))).setCell ⟨gw, 1, none⟩ (.int .i64 (y.1 / 1000000000))) := k1.setCell (Nat.le_refl _) _
            exact ⟨rfl, by rw [HE1.out]; rfl, k2.setCell (Nat.le_refl _) _, by rw [HE1.out]; exact ((hw3.store 0 _).store 1 _).store 2 _⟩
    · have hl' : ¬ (0 : Int) < (cs.length : Int) := by omega
      have e0 : cs = [] := List.eq_nil_of_length_eq_zero (by omega)
      have e1 : nextO x = none := by rw [← HBe.out, e0]; rfl
      have HE1 := hide e1
      clear e0 e1
      go_wp2
      go_meet
      case rel => exact ⟨rfl, by rw [HE1.out]; rfl, hB1, by rw [HE1.out]; exact hw1⟩
  case rest =>
  rename_i hK
  obtain ⟨rfl, rfl, hB2, hw2⟩ := hcut
  obtain ⟨h2, _, ha2⟩ := HK.out _ hB2
  exact hK _ _ (part_54 ok h2 ha2 hw2)
end Go.Proofs.Ybulkfhta.B
