/-
  The walk of the law A: the copy, the parser, the comparison.
-/
import Derived.Test.YbulkfhveFmtRALaw0
namespace Go.Proofs.YbulkfhveFmtR.A
open Go.RowKit
attribute [local go_sem ↓] Go.wp_at_zero Go.wp_at_succ

set_option maxRecDepth 100000 in
set_option maxHeartbeats 16000000 in
theorem part_38 {w W : World} {tb cap st en : Nat} {L : List Tk} {dep : Int} {sub : Bool} {u0 u1 u2 u3 u4 u5 u8 u9 u10 u11 u12 u13 u14 u15 u16 u17 u18 u20 u21 u24 u25 u26 u27 u28 u29 u30 u31 u32 u33 u34 u35 u36 u37 u38 u39 u40 u41 u42 u43 u44 u45 u46 u47 u48 u49 u50 u51 u52 u53 u54 u55 u56 u57 u58 u59 u60 u61 u62 u63 u64 u65 u66 u67 u68 u69 u70 u71 u72 u73 u74 u75 u76 u77 u78 u79 u80 u81 u82 u83 u84 u85 u86 u87 u88 u89 u90 u91 u92 u93 u94 u95 u96 u97 u98 u99 u100 u101 u102 u103 u104 u105 u106 u107 u108 u109 u110 u111 u112 u113 u114 u115 u116 u117 u118 u119 u120 u121 u122 u123 u124 u125 u126 u127 u128 u129 u130 u131 u132 u133 u134 u135 u136 u137 u138 u139 u140 u141 u142 u143 u144 u145 u146 u147 u148 u149 u150 u151 u152 u153 u154 u155 u156 u157 u158 u159 u160 u161 u162 u163 u164 u165 u166 u167 u168 u169 u170 u171 u172 u173 u174 u175 u176 u177 u178 u179 u180 u181 u182 u183 u184 u185 u186 u187 u188 u189 u190 u191 u192 u193 u194 u195 u196 u197 u198 u199 : Value} (hrow : Num W w.heap.size (.slice (some ⟨tb, 0, none⟩) L.length cap) L L.length) (hbel : Below w.heap.size w W) (hfac : Fac L st en) (hst : st < L.length) (hl : L.length ≤ 1000000) :
    Code.wp Ybaf.prog (piece Ybaf.f3.body 38) (bodyPost Ybaf.prog Ybaf.f3 (Yes w)) ⟨#[u0, u1, u2, u3, u4, u5, .int .i64 dep, .bool sub, u8, u9, u10, u11, u12, u13, u14, u15, u16, u17, u18, .slice (some ⟨tb, 0, none⟩) L.length cap, u20, u21, .int .i64 (st : Int), .int .i64 (en : Int), u24, u25, u26, u27, u28, u29, u30, u31, u32, u33, u34, u35, u36, u37, u38, u39, u40, u41, u42, u43, u44, u45, u46, u47, u48, u49, u50, u51, u52, u53, u54, u55, u56, u57, u58, u59, u60, u61, u62, u63, u64, u65, u66, u67, u68, u69, u70, u71, u72, u73, u74, u75, u76, u77, u78, u79, u80, u81, u82, u83, u84, u85, u86, u87, u88, u89, u90, u91, u92, u93, u94, u95, u96, u97, u98, u99, u100, u101, u102, u103, u104, u105, u106, u107, u108, u109, u110, u111, u112, u113, u114, u115, u116, u117, u118, u119, u120, u121, u122, u123, u124, u125, u126, u127, u128, u129, u130, u131, u132, u133, u134, u135, u136, u137, u138, u139, u140, u141, u142, u143, u144, u145, u146, u147, u148, u149, u150, u151, u152, u153, u154, u155, u156, u157, u158, u159, u160, u161, u162, u163, u164, u165, u166, u167, u168, u169, u170, u171, u172, u173, u174, u175, u176, u177, u178, u179, u180, u181, u182, u183, u184, u185, u186, u187, u188, u189, u190, u191, u192, u193, u194, u195, u196, u197, u198, u199], []⟩ W := by
  conv => arg 2; whnf; dsimp only
  have t0 : (0 : Int) ≤ (L.length : Int) := by omega
  have t1 : (L.length : Int) ≤ 1000000 := by omega
  obtain ⟨i, e1, e2, e3, e4⟩ := info_parts info28
  have EI := hide (And.intro e1 (And.intro e2 (And.intro e3 e4)))
  clear e1 e2 e3 e4
  have htb : tb < W.heap.size := (World.ownsRow.lt hrow tb rfl).2
  go_upto_region 39 with (refine wpList_make_full W rfl _ _ 25 rfl w.heap.size 28 i _ 4 Ybaf.underlying25 EI.out.1 EI.out.2.1 EI.out.2.2.1 .i64 .i64 _ _ L.length rfl rfl rfl rfl (by rw [EI.out.2.2.2]; omega) (by simp only [maxLen]; omega) hbel.size ?_; intro w1 hown hg1)
  obtain ⟨cb, ecb⟩ : ∃ cb, cb = W.heap.size := ⟨_, rfl⟩
  rw [← ecb] at hown ⊢
  obtain ⟨c, hb1, hcl⟩ : ∃ c, Blk w1 cb 28 c ∧ c.length = L.length * 4 := by
    rcases hown.2 with ⟨e, _⟩ | ⟨g', cap', cur, e, _, hg, _, _, hcs, _⟩
    · simp at e
    · cases e
      exact ⟨cur.toList, by unfold Blk; simpa using hg, by simpa using hcs⟩
  have hne : tb ≠ cb := by omega
  have bel1 : Below w.heap.size w w1 := hbel.grown hg1 hbel.size (by simp)
  have hrow1 : Num w1 w.heap.size (.slice (some ⟨tb, 0, none⟩) L.length cap) L L.length := World.ownsRow.kept hrow hg1 (.inr (by simp [Value.ownBlock]))
  have hcb : w.heap.size ≤ cb := by rw [ecb]; exact hbel.size
  have ECB := hide ecb
  clear ecb hown hg1 hrow hbel EI htb
  go_upto_region 40 with (refine wpList_copy28 (by rfl) _ _ (by rfl) cb tb L.length L.length cap (by rfl) (by rfl) (mx L 0 L.length) (mx_length _ _ _) (hb1.there hcl) hrow1.cells (mx_one _ _ _) ?_)
  have hb2 := hb1.whole (l' := mx L 0 L.length) (by rw [hcl, mx_length])
  have bel2 : Below w.heap.size w (w1.setCells cb 0 (mx L 0 L.length)) := below_sets hcb _ _ bel1
  have hrow2 : Num (w1.setCells cb 0 (mx L 0 L.length)) w.heap.size (.slice (some ⟨tb, 0, none⟩) L.length cap) L L.length := World.ownsRow.kept hrow1 (grown_sets cb _ 0 w1) (.inr (by simp [Value.ownBlock]; omega))
  generalize (w1.setCells cb 0 (mx L 0 L.length)) = w2 at hb2 bel2 hrow2 ⊢
  have tk1 := hrow2.toks
  have tk2 : Toks w2 cb L := mx_range hb2 (List.take_of_length_le (by rw [mx_length]; exact Nat.le_refl _))
  have htb2 : tb < w2.heap.size := (World.ownsRow.lt hrow2 tb rfl).2
  have hcb2 := hb2.lt
  clear hb1 hb2 bel1 hrow1 hrow2 ECB hcl
  go_upto_region 41 with (fail)
  have hbp := Blk.new w2 35 [.slice (some ⟨tb, 0, none⟩) L.length cap, .int .i64 (st : Int), .int .i64 dep, .pointer none, .pointer none, .bool sub]
  have hgp := World.grownBy_alloc w2 (.cells [.slice (some ⟨tb, 0, none⟩) L.length cap, .int .i64 (st : Int), .int .i64 dep, .pointer none, .pointer none, .bool sub].toArray 35) none
  have hsz : w.heap.size ≤ w2.heap.size := bel2.size
  have hps : Ps _ w2.heap.size tb cap L st dep sub := ⟨hbp, fun m x e => grown_range hgp (tk1 m x e) (by simp), by omega, hst, hl⟩
  have tk2' : Toks (w2.alloc (.cells [.slice (some ⟨tb, 0, none⟩) L.length cap, .int .i64 (st : Int), .int .i64 dep, .pointer none, .pointer none, .bool sub].toArray 35)) cb L := fun m x e => grown_range hgp (tk2 m x e) (by simp)
  have bel3 : Below w.heap.size w (w2.alloc (.cells [.slice (some ⟨tb, 0, none⟩) L.length cap, .int .i64 (st : Int), .int .i64 dep, .pointer none, .pointer none, .bool sub].toArray 35)) := bel2.alloc hsz _
  obtain ⟨g, eg⟩ : ∃ g, g = w2.heap.size := ⟨_, rfl⟩
  rw [← eg] at hps ⊢
  generalize (w2.alloc (.cells [.slice (some ⟨tb, 0, none⟩) L.length cap, .int .i64 (st : Int), .int .i64 dep, .pointer none, .pointer none, .bool sub].toArray 35)) = w3 at hps tk2' bel3 ⊢
  have hcg : cb ≠ g := by omega
  have EG := hide eg
  clear eg hbp hgp
  have hgz : w.heap.size ≤ g := by rw [EG.out]; exact hsz
  go_wp2_with fail
  refine (hfac hps).mono ?_
  rintro e w4 ⟨⟨v, rfl⟩, hp4, hg4⟩
  have bel4 : Below w.heap.size w w4 := bel3.grown hg4 bel3.size (fun k e => by cases e; exact hgz)
  have tk4 : Toks w4 cb L := fun m x e => grown_range hg4 (tk2' m x e) (by simpa using hcg)
  have HEQ := hide (eq_any (ca := cap) (cb := L.length) hp4.tok tk4 hl)
  have c0 := hp4.blk.cell (i := 0) rfl
  have c1 := hp4.blk.cell (i := 1) rfl
  have c2 := hp4.blk.cell (i := 2) rfl
  have c3 := hp4.blk.cell (i := 3) rfl
  have c4 := hp4.blk.cell (i := 4) rfl
  have c5 := hp4.blk.cell (i := 5) rfl
  clear tk1 tk2 tk2' tk4 hg4 bel2 bel3
  go_wp2_with fail
  refine HEQ.out.mono ?_
  rintro e w5 ⟨rfl, hg5⟩
  go_wp2
  go_ret
  exact ⟨rfl, bel4.grown hg5 bel4.size (by simp)⟩
end Go.Proofs.YbulkfhveFmtR.A
