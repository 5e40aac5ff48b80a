/-
  The walk of the law B: the restarts.
-/
import Derived.Test.YbulkfhtaBLawC
namespace Go.Proofs.Ybulkfhta.B
open Go.RowKit
attribute [local go_sem ↓] Go.wp_at_zero Go.wp_at_succ

theorem info56 : (Yba.prog.info? 56).map (fun i => (i.zero, i.size, i.bytes)) = some (some (.agg #[.pointer none, .int .u64 0, .int .i64 0, .pointer none]), 4, 32) := by kernel_rfl

theorem Inp.store {W : World} {L m : Nat} {x : Ld} {rh : Value} {ys : Nat → Int} (h : Inp W L x) (hr : W.ownsRow (L + 1) 56 4 rh m (rowR ys m)) : Inp (W.setCell ⟨L, 11, none⟩ rh) L { x with rh := rh, m := m, R := ys } := by
  have hg := grown_set W ⟨L, 11, none⟩ rh
  have o : ∀ i, i ≠ 11 → (W.setCell ⟨L, 11, none⟩ rh).cell? ⟨L, i, none⟩ = W.cell? ⟨L, i, none⟩ := fun i hi => World.cell?_setCell_other _ _ _ _ (fun e => by cases e; exact hi rfl)
  refine ⟨⟨(o 10 (by decide)).trans h.hp.hd, by rw [World.frozen?_setCell]; exact h.hp.fz, h.hp.own.kept hg (.inr fun e => ?_), fun q hq => (h.hp.snd q hq).grown hg ?_, h.hp.up⟩, (o 0 (by decide)).trans h.c0, (o 1 (by decide)).trans h.c1, (o 2 (by decide)).trans h.c2, (o 3 (by decide)).trans h.c3, (o 4 (by decide)).trans h.c4, World.cell?_setCell_same _ _ _ h.c11, (o 12 (by decide)).trans h.c12, (o 13 (by decide)).trans h.c13, (o 14 (by decide)).trans h.c14, (o 15 (by decide)).trans h.c15, (o 16 (by decide)).trans h.c16, hr.kept hg (.inr fun e => ?_)⟩
  · have := (h.hp.own.lt L e).1
    omega
  · have := h.hp.up q hq
    simp
    omega
  · have := (hr.lt L e).1
    omega

set_option maxRecDepth 100000 in
set_option maxHeartbeats 16000000 in
theorem part_13 {w W : World} {L q0 q5 : Nat} {x : Ld} {a0 a5 : Option Addr} {xs : Nat → Int} {m : Nat} {ys : Nat → Int} {u1 u2 u3 u4 u7 u8 u9 u10 u11 u12 u13 u14 u20 u21 u22 u23 u24 u25 u26 u27 u28 u29 u30 u31 u32 u33 u34 u35 u36 u37 u38 u39 u40 u41 u42 u43 u44 u45 u46 u47 u48 u49 u50 u51 u52 u53 u54 u55 u56 u57 u58 u59 u60 u61 u62 u63 u64 u65 u66 u67 u68 u69 u70 u71 u72 u73 u74 u75 u76 u77 u78 u79 u80 u81 u82 u83 u84 u85 u86 u87 u88 u89 u90 u91 u92 u93 u94 u95 u96 u97 u98 u99 u100 u101 u102 u103 u104 u105 u106 u107 u108 u109 u110 u111 u112 u113 u114 u115 u116 u117 u118 u119 u120 u121 u122 u123 u124 u125 u126 u127 u128 u129 u130 u131 u132 u133 u134 u135 u136 u137 u138 u139 u140 u141 u142 u143 u144 u145 u146 u147 u148 u149 u150 u151 u152 u153 u154 u155 u156 u157 u158 u159 u160 u161 u162 u163 u164 u165 u166 u167 u168 u169 u170 u171 u172 u173 u174 u175 u176 u177 u178 u179 u180 u181 u182 u183 u184 u185 u186 u187 u188 u189 u190 u191 u192 u193 u194 u195 u196 u197 u198 u199 u200 u201 u202 u203 u204 u205 u206 u207 u208 u209 u210 u211 u212 u213 u214 u215 u216 u217 u218 u219 u220 u221 u222 u223 u224 u225 u226 u227 u228 u229 u230 u231 u232 u233 u234 u235 u236 u237 u238 u239 u240 u241 u242 u243 u244 u245 u246 u247 u248 u249 u250 u251 u252 u253 u254 u255 u256 u257 u258 u259 u260 u261 u262 u263 u264 u265 u266 u267 u268 u269 u270 u271 u272 u273 u274 : Value} (ok : ∀ rh, Ok { x with rh := rh, m := m, R := ys } xs) (h : Inp W L x) (g0 : Given w a0 x.n xs) (g5 : Given w a5 m ys) (bel : Below w.heap.size w W) (hwL : w.heap.size ≤ L) (hfz : W.frozen? ⟨L, 11, none⟩ = false) :
    Code.wp Yba.prog (piece Yba.f4.body 13) (bodyPost Yba.prog Yba.f4 (Yes w)) ⟨#[.slice a0 x.n q0, u1, u2, u3, u4, .slice a5 m q5, .bool x.lv, u7, u8, u9, u10, u11, u12, u13, u14, .int .i64 x.sf, .int .i64 (x.nS : Int), .int .i64 (x.k : Int), .int .i64 x.d, .pointer (some ⟨L, 0, none⟩), u20, u21, u22, u23, u24, u25, u26, u27, u28, u29, u30, u31, u32, u33, u34, u35, u36, u37, u38, u39, u40, u41, u42, u43, u44, u45, u46, u47, u48, u49, u50, u51, u52, u53, u54, u55, u56, u57, u58, u59, u60, u61, u62, u63, u64, u65, u66, u67, u68, u69, u70, u71, u72, u73, u74, u75, u76, u77, u78, u79, u80, u81, u82, u83, u84, u85, u86, u87, u88, u89, u90, u91, u92, u93, u94, u95, u96, u97, u98, u99, u100, u101, u102, u103, u104, u105, u106, u107, u108, u109, u110, u111, u112, u113, u114, u115, u116, u117, u118, u119, u120, u121, u122, u123, u124, u125, u126, u127, u128, u129, u130, u131, u132, u133, u134, u135, u136, u137, u138, u139, u140, u141, u142, u143, u144, u145, u146, u147, u148, u149, u150, u151, u152, u153, u154, u155, u156, u157, u158, u159, u160, u161, u162, u163, u164, u165, u166, u167, u168, u169, u170, u171, u172, u173, u174, u175, u176, u177, u178, u179, u180, u181, u182, u183, u184, u185, u186, u187, u188, u189, u190, u191, u192, u193, u194, u195, u196, u197, u198, u199, u200, u201, u202, u203, u204, u205, u206, u207, u208, u209, u210, u211, u212, u213, u214, u215, u216, u217, u218, u219, u220, u221, u222, u223, u224, u225, u226, u227, u228, u229, u230, u231, u232, u233, u234, u235, u236, u237, u238, u239, u240, u241, u242, u243, u244, u245, u246, u247, u248, u249, u250, u251, u252, u253, u254, u255, u256, u257, u258, u259, u260, u261, u262, u263, u264, u265, u266, u267, u268, u269, u270, u271, u272, u273, u274], []⟩ W := by
  conv => arg 2; whnf; dsimp only
  obtain ⟨i56, e56a, e56b, e56c, e56d⟩ := info_parts info56
  have hsum : x.n + m ≤ 65536 := (ok (.slice none 0 0)).sum
  have hwy : ∀ i, i < m → wf64 (ys i) := (ok (.slice none 0 0)).wy
  have HWY := hide hwy
  have m0 : (0 : Int) ≤ (m : Int) := by omega
  have m1 : (m : Int) ≤ 65536 := by omega
  obtain ⟨B, eB⟩ : ∃ B, B = W.heap.size := ⟨_, rfl⟩
  have lB : L < B := by rw [eB]; exact h.lt
  have EB := hide eB
  have KE : ∀ W', Below B W W' → Inp W' L x ∧ Below w.heap.size w W' ∧ W'.frozen? ⟨L, 11, none⟩ = false := fun W' hb => by
    refine ⟨h.below (by rw [← eB]; exact hb), bel.trans (hb.mono (by rw [eB]; exact bel.size)), ?_⟩
    exact (World.frozen?_of_block (hb.block L lB)).trans hfz
  have HK := hide KE
  have OKH := hide ok
  have HG0 := hide g0
  have HG5 := hide g5
  clear KE h g0 g5 bel hfz ok hwy eB
  go_upto_block 2 with (fail)
  go_cut [22, 24] from 79 to 89 (fun s _ W' => W'.ownsRow B 56 4 s m (rowR ys m) ∧ Below B W W')
  case first =>
    go_wp2_with fail
    go_loopw [22, 24, 79] (fun s _ y W' => ∃ j : Nat, y = .int .i64 (j : Int) ∧ j ≤ m ∧ W'.ownsRow B 56 4 s j (rowR ys j) ∧ Below B W W') (fun _ _ y _ => m - (intOf y).toNat)
    case atStart => exact ⟨0, rfl, by omega, World.ownsRow_nil _ _ _ _, Below.refl _ _⟩
    case round =>
      obtain ⟨j, rfl, hj, hown, hB⟩ := hrel
      have j0 : (0 : Int) ≤ (j : Int) := by omega
      have j2 : (j : Int) ≤ 65536 := by omega
      by_cases hlt : j < m
      · have j1 : (j : Int) < (m : Int) := by omega
        obtain ⟨b, off, rfl⟩ := HG5.out.form (by omega)
        have q0 := (HG5.out.below (HK.out _ hB).2.1).cell b off rfl j hlt
        have hbat := bat_any (W := wr) (HWY.out j hlt).1 (HWY.out j hlt).2
        unfold tv at hbat
        have HBT := hide hbat
        clear hbat
        obtain ⟨va, vcap, rfl⟩ := slice_form hown
        go_wp2_with fail
        refine HBT.out.mono ?_
        rintro e w1 ⟨rfl, hb1⟩
        clear q0
        have hown1 := hown.kept (below_size hb1) (by cases (Value.slice va j vcap).ownBlock <;> simp)
        have hB1 := hB.trans (hb1.mono (by rw [EB.out]; exact hB.size))
        clear hown hB
        go_wp2_with (at_builtin; refine wpList_append_lies _ rfl _ _ 47 rfl B 56 i56 _ 4 32 Yba.underlying47 e56a e56b e56c e56d rfl (by omega) _ j (rowR ys j) rfl (by exact hown1.alloc _) _ 1 1 [.pointer none, .int .u64 (ys j % 1000000000), .int .i64 (ys j / 1000000000), .pointer none] rfl rfl (by exact World.news_of_block (heap_alloc_new _ _)) (by simp [Value.oneCell']) (by omega) (by simp only [maxLen]; omega) (by omega) (by have := hB1.size; have := EB.out; simp only [World.size_alloc]; omega) _ rfl ?_; intro gx capx wx hown2 hgrow hat hlt3)
        refine ⟨⟨j + 1, by go_num, by omega, hown2, ?_⟩, by simp [intOf]; omega⟩
        exact Below.grown (hB1.alloc (by have := hB1.size; have := EB.out; omega) _) hgrow (by have := hB1.size; have := EB.out; simp only [World.size_alloc]; omega) (fun k e => (hown1.lt k e).1)
      · have j1 : ¬ (j : Int) < (m : Int) := by omega
        obtain rfl : j = m := by omega
        go_wp2
        go_meet
        case rel => exact ⟨hown, hB⟩
  case rest =>
  obtain ⟨hown, hB⟩ := hcut
  rename World => w1
  obtain ⟨va, vcap, rfl⟩ := slice_form hown
  obtain ⟨h1, bel1, hfz1⟩ := HK.out _ hB
  have c11 := h1.c11
  have h2 := h1.store (own_mono hown (by omega))
  have hb2 : Below w.heap.size w1 (w1.setCell ⟨L, 11, none⟩ (.slice va m vcap)) := (Below.refl _ w1).setCell hwL _
  have hok := OKH.out (.slice va m vcap)
  have hn0 := next_any h2 (hok.small)
  unfold tv at hn0
  have HN := hide hn0
  have bel2 : Below w.heap.size w (w1.setCell ⟨L, 11, none⟩ (.slice va m vcap)) := bel1.trans hb2
  clear hn0 hown hB hb2 h1 bel1 HK
  go_upto_region 20 with (fail)
  clear c11 hfz1
  generalize (w1.setCell ⟨L, 11, none⟩ (.slice va m vcap)) = w2 at h2 HN bel2 ⊢
  obtain ⟨x', ex⟩ : ∃ x', x' = { x with rh := .slice va m vcap, m := m, R := ys } := ⟨_, rfl⟩
  rw [← ex] at h2 HN hok
  have EX := hide ex
  clear ex
  go_cut [25, 26] from 94 to 98 (fun p s W' => ∃ ga, p = .pointer (some ⟨ga, 0, none⟩) ∧ s = .string (stepOf (nextO x')) ∧ TVar W' ga (timeOf (nextO x')) ∧ Below w2.heap.size w2 W')
  case first =>
    go_wp2_with fail
    refine HN.out.mono ?_
    rintro e w3 ⟨rfl, hb3⟩
    go_wp2
    go_meet
    case rel => exact ⟨_, rfl, rfl, Blk.new _ _ _, hb3.alloc hb3.size _⟩
  case rest =>
  obtain ⟨ga, rfl, rfl, ht, hb3⟩ := hcut
  have h3 := h2.below hb3
  have bel3 : Below w.heap.size w wc := bel2.trans (hb3.mono bel2.size)
  rename_i hK
  obtain rfl := EX.out
  exact hK _ _ (part_21 hok ⟨h3, HG0.out.below bel3, HG5.out.below bel3, bel3⟩ ht)
end Go.Proofs.Ybulkfhta.B
