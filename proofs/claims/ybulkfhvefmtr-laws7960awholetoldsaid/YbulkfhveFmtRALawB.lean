/-
  The walk of the law A: the tokens are numbered.
-/
import Derived.Test.YbulkfhveFmtRALawC
namespace Go.Proofs.YbulkfhveFmtR.A
open Go.RowKit
attribute [local go_sem ↓] Go.wp_at_zero Go.wp_at_succ

theorem Num.there {W : World} {B : Nat} {tb cap : Nat} {L : List Tk} {j : Nat} (h : Num W B (.slice (some ⟨tb, 0, none⟩) L.length cap) L j) {k : Nat} (hk : k < L.length * 4) : (∃ v, W.cell? ⟨tb, k, none⟩ = some v) ∧ W.frozen? ⟨tb, k, none⟩ = false := by
  refine ⟨?_, ?_⟩
  · have hl := mx_length L 0 j
    have := h.cells k _ (List.getElem?_eq_getElem (by omega))
    rw [Addr.add_mid, Nat.zero_add] at this
    exact ⟨_, this⟩
  · rcases h.2 with ⟨e, _⟩ | ⟨g, cap', cur, e, _, hg, _⟩
    · simp at e
    · cases e
      simp [World.frozen?, hg]
theorem Num.step {W : World} {B : Nat} {tb cap : Nat} {L : List Tk} {j : Nat} (h : Num W B (.slice (some ⟨tb, 0, none⟩) L.length cap) L j) (hj : j < L.length) :
    Num ((W.setCell ⟨tb, j * 4 + 1, none⟩ (.int .i64 (j : Int))).setCell ⟨tb, j * 4 + 2, none⟩ (.int .i64 ((j : Int) + 1))) B (.slice (some ⟨tb, 0, none⟩) L.length cap) L (j + 1) ∧
    W.grownBy ((W.setCell ⟨tb, j * 4 + 1, none⟩ (.int .i64 (j : Int))).setCell ⟨tb, j * 4 + 2, none⟩ (.int .i64 ((j : Int) + 1))) (some tb) := by
  have h1 := World.ownsRow.stored h (j * 4 + 1) (.int .i64 (j : Int))
  have h2 := World.ownsRow.stored h1.1 (j * 4 + 2) (.int .i64 ((j : Int) + 1))
  refine ⟨?_, grown_trans h1.2 h2.2 (.inl rfl)⟩
  have e := mx_set L 0 j (Nat.zero_le _) (by omega)
  rw [Nat.sub_zero, show 4 * j = j * 4 by omega] at e
  unfold Num
  rw [← e]
  exact h2.1

set_option maxRecDepth 100000 in
set_option maxHeartbeats 16000000 in
theorem part_33 {w W : World} {tb cap st en : Nat} {L : List Tk} {dep : Int} {sub : Bool} {u0 u1 u2 u3 u4 u5 u8 u9 u10 u11 u12 u13 u14 u15 u16 u17 u18 u20 u21 u24 u25 u26 u27 u28 u29 u30 u31 u32 u33 u34 u35 u36 u37 u38 u39 u40 u41 u42 u43 u44 u45 u46 u47 u48 u49 u50 u51 u52 u53 u54 u55 u56 u57 u58 u59 u60 u61 u62 u63 u64 u65 u66 u67 u68 u69 u70 u71 u72 u73 u74 u75 u76 u77 u78 u79 u80 u81 u82 u83 u84 u85 u86 u87 u88 u89 u90 u91 u92 u93 u94 u95 u96 u97 u98 u99 u100 u101 u102 u103 u104 u105 u106 u107 u108 u109 u110 u111 u112 u113 u114 u115 u116 u117 u118 u119 u120 u121 u122 u123 u124 u125 u126 u127 u128 u129 u130 u131 u132 u133 u134 u135 u136 u137 u138 u139 u140 u141 u142 u143 u144 u145 u146 u147 u148 u149 u150 u151 u152 u153 u154 u155 u156 u157 u158 u159 u160 u161 u162 u163 u164 u165 u166 u167 u168 u169 u170 u171 u172 u173 u174 u175 u176 u177 u178 u179 u180 u181 u182 u183 u184 u185 u186 u187 u188 u189 u190 u191 u192 u193 u194 u195 u196 u197 u198 u199 : Value} (hrow : Row W w.heap.size (.slice (some ⟨tb, 0, none⟩) L.length cap) L) (hbel : Below w.heap.size w W) (hfac : Fac L st en) (hst : st < L.length) (hl : L.length ≤ 1000000) :
    Code.wp Ybaf.prog (piece Ybaf.f3.body 33) (bodyPost Ybaf.prog Ybaf.f3 (Yes w)) ⟨#[u0, u1, u2, u3, u4, u5, .int .i64 dep, .bool sub, u8, u9, u10, u11, u12, u13, u14, u15, u16, u17, u18, .slice (some ⟨tb, 0, none⟩) L.length cap, u20, u21, .int .i64 (st : Int), .int .i64 (en : Int), u24, u25, u26, u27, u28, u29, u30, u31, u32, u33, u34, u35, u36, u37, u38, u39, u40, u41, u42, u43, u44, u45, u46, u47, u48, u49, u50, u51, u52, u53, u54, u55, u56, u57, u58, u59, u60, u61, u62, u63, u64, u65, u66, u67, u68, u69, u70, u71, u72, u73, u74, u75, u76, u77, u78, u79, u80, u81, u82, u83, u84, u85, u86, u87, u88, u89, u90, u91, u92, u93, u94, u95, u96, u97, u98, u99, u100, u101, u102, u103, u104, u105, u106, u107, u108, u109, u110, u111, u112, u113, u114, u115, u116, u117, u118, u119, u120, u121, u122, u123, u124, u125, u126, u127, u128, u129, u130, u131, u132, u133, u134, u135, u136, u137, u138, u139, u140, u141, u142, u143, u144, u145, u146, u147, u148, u149, u150, u151, u152, u153, u154, u155, u156, u157, u158, u159, u160, u161, u162, u163, u164, u165, u166, u167, u168, u169, u170, u171, u172, u173, u174, u175, u176, u177, u178, u179, u180, u181, u182, u183, u184, u185, u186, u187, u188, u189, u190, u191, u192, u193, u194, u195, u196, u197, u198, u199], []⟩ W := by
  conv => arg 2; whnf; dsimp only
  have t0 : (0 : Int) ≤ (L.length : Int) := by omega
  have t1 : (L.length : Int) ≤ 1000000 := by omega
  have hB := (Row.lt hrow tb rfl).1
  go_upto_block 3 with (fail)
  go_cut [24] from 125 to 141 (fun _ W' => Num W' w.heap.size (.slice (some ⟨tb, 0, none⟩) L.length cap) L L.length ∧ Below w.heap.size w W')
  case first =>
    go_wp2_with fail
    go_loopw [24] (fun y W' => ∃ j : Nat, y = .int .i64 (j : Int) ∧ j ≤ L.length ∧ Num W' w.heap.size (.slice (some ⟨tb, 0, none⟩) L.length cap) L j ∧ Below w.heap.size w W') (fun y _ => L.length - (intOf y).toNat)
    case atStart => exact ⟨0, rfl, by omega, Num.of hrow, hbel⟩
    case round =>
      obtain ⟨j, rfl, hj, hnum, hbl⟩ := hrel
      have j0 : (0 : Int) ≤ (j : Int) := by omega
      by_cases hlt : j < L.length
      · have j1 : (j : Int) < (L.length : Int) := by omega
        obtain ⟨⟨v1, x1⟩, y1⟩ := hnum.there (k := j * 4 + 1) (by omega)
        obtain ⟨⟨v2, x2⟩, y2⟩ := hnum.there (k := j * 4 + 2) (by omega)
        have hs := hnum.step hlt
        have HS := hide hs
        clear hs
        go_wp2
        refine ⟨⟨j + 1, by go_num, by omega, HS.out.1, hbl.grown HS.out.2 hbl.size (fun k e => by cases e; exact hB)⟩, by simp [intOf]; omega⟩
      · have j1 : ¬ (j : Int) < (L.length : Int) := by omega
        obtain rfl : j = L.length := by omega
        go_wp2
        go_meet
        case rel => exact ⟨hnum, hbl⟩
  case rest =>
  obtain ⟨hnum, hbl⟩ := hcut
  rename_i hK
  exact hK _ _ (part_38 hnum hbl hfac hst hl)
end Go.Proofs.YbulkfhveFmtR.A
