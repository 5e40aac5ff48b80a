/-
  The walk of the law B: the candidates.
-/
import Derived.Test.YbulkfhtaBLawD
namespace Go.Proofs.Ybulkfhta.B
open Go.RowKit
attribute [local go_sem ↓] Go.wp_at_zero Go.wp_at_succ

theorem info2 : (Yba.prog.info? 2).map (fun i => (i.zero, i.size, i.bytes)) = some (some (.int .i64 0), 1, 8) := by kernel_rfl
theorem info57 : (Yba.prog.info? 57).map (fun i => (i.zero, i.size, i.bytes)) = some (some (.string { data := #[] }), 1, 16) := by kernel_rfl

theorem rows_apart {W : World} {lo lo' e e' k k' n n' : Nat} {v v' : Value} {xs xs' : List Value} (h : W.ownsRow lo e k v n xs) (h' : W.ownsRow lo' e' k' v' n' xs') (he : e ≠ e') : v.ownBlock = none ∨ v.ownBlock ≠ v'.ownBlock := by
  rcases h.2 with ⟨rfl, _⟩ | ⟨g, cap, cur, rfl, _, hh, _⟩
  · exact .inl rfl
  · right
    rcases h'.2 with ⟨rfl, _⟩ | ⟨g', cap', cur', rfl, _, hh', _⟩
    · simp [Value.ownBlock]
    · intro e1
      simp only [Value.ownBlock, Option.some.injEq] at e1
      subst e1
      rw [hh] at hh'
      simp at hh'
      exact he hh'.2
theorem own_mono {W : World} {lo lo' e k n : Nat} {v : Value} {xs : List Value} (h : W.ownsRow lo e k v n xs) (hl : lo' ≤ lo) : W.ownsRow lo' e k v n xs := by
  refine ⟨h.1, ?_⟩
  rcases h.2 with hn | ⟨g, cap, cur, rfl, hb, rest⟩
  · exact .inl hn
  · exact .inr ⟨g, cap, cur, rfl, by omega, rest⟩

/-- The law's lists while they grow. -/
structure Lst (W : World) (B : Nat) (w : World) (t s : Value) (cs : List Cand) : Prop where
  ts : w.ownsRow B 2 1 t cs.length (rT cs)
  ss : w.ownsRow B 57 1 s cs.length (rS cs)
  bel : Below B W w
  wf : ∀ c, c ∈ cs → wf64 c.1
/-- .. the one has grown, the other not yet. -/
structure Half (W : World) (B : Nat) (w : World) (t s : Value) (cs : List Cand) (n : Int) : Prop where
  ts : w.ownsRow B 2 1 t (cs.length + 1) (rT cs ++ [.int .i64 n])
  ss : w.ownsRow B 57 1 s cs.length (rS cs)
  bel : Below B W w
  wf : ∀ c, c ∈ cs → wf64 c.1
  wn : wf64 n

theorem Lst.half {W w w' : World} {B : Nat} {t t' s : Value} {cs : List Cand} {n : Int} {o : Obj} (h : Lst W B w t s cs) (eB : B = W.heap.size) (hn : wf64 n) (hown : w'.ownsRow B 2 1 t' (cs.length + 1) (rT cs ++ [.int .i64 n])) (hg : (w.alloc o).grownBy w' t.ownBlock) : Half W B w' t' s cs n :=
  ⟨hown, (h.ss.alloc _).kept hg (rows_apart h.ss h.ts (by decide)), Below.grown (h.bel.alloc (by have := h.bel.size; omega) _) hg (by have := h.bel.size; simp only [World.size_alloc]; omega) (fun k e => (h.ts.lt k e).1), h.wf, hn⟩
theorem Half.full {W w w' : World} {B : Nat} {t s s' : Value} {cs : List Cand} {n : Int} {st : ByteArray} {o : Obj} (h : Half W B w t s cs n) (eB : B = W.heap.size) (hown : w'.ownsRow B 57 1 s' (cs.length + 1) (rS cs ++ [.string st])) (hg : (w.alloc o).grownBy w' s.ownBlock) : Lst W B w' t s' (cs ++ [(n, st)]) := by
  refine ⟨?_, ?_, Below.grown (h.bel.alloc (by have := h.bel.size; omega) _) hg (by have := h.bel.size; simp only [World.size_alloc]; omega) (fun k e => (h.ss.lt k e).1), fun c hc => ?_⟩
  · rw [show (cs ++ [(n, st)]).length = cs.length + 1 by simp, show rT (cs ++ [(n, st)]) = rT cs ++ [.int .i64 n] by simp [rT]]
    exact (h.ts.alloc _).kept hg (rows_apart h.ts h.ss (by decide))
  · rw [show (cs ++ [(n, st)]).length = cs.length + 1 by simp, show rS (cs ++ [(n, st)]) = rS cs ++ [.string st] by simp [rS]]
    exact hown
  · simp at hc
    rcases hc with hc | rfl
    · exact h.wf c hc
    · exact h.wn

theorem Lst.cds {W w : World} {B : Nat} {t s : Value} {cs : List Cand} {x : Ld} (h : Lst W B w t s cs) (hl : cs.length ≤ 4) : Cds w x t s cs := ⟨own_mono h.ts (by omega), own_mono h.ss (by omega), hl, h.wf⟩

theorem best_add (cs : List Cand) (c : Cand) : best (cs ++ [c]) = cons (best cs) c := by simp [best]

set_option maxRecDepth 100000 in
set_option maxHeartbeats 16000000 in
theorem part_21 {w W : World} {L q0 q5 : Nat} {x : Ld} {a0 a5 : Option Addr} {xs : Nat → Int} {ga : Nat} {u1 u2 u3 u4 u7 u8 u9 u10 u11 u12 u13 u14 u20 u21 u22 u23 u24 u27 u28 u29 u30 u31 u32 u33 u34 u35 u36 u37 u38 u39 u40 u41 u42 u43 u44 u45 u46 u47 u48 u49 u50 u51 u52 u53 u54 u55 u56 u57 u58 u59 u60 u61 u62 u63 u64 u65 u66 u67 u68 u69 u70 u71 u72 u73 u74 u75 u76 u77 u78 u79 u80 u81 u82 u83 u84 u85 u86 u87 u88 u89 u90 u91 u92 u93 u94 u95 u96 u97 u98 u99 u100 u101 u102 u103 u104 u105 u106 u107 u108 u109 u110 u111 u112 u113 u114 u115 u116 u117 u118 u119 u120 u121 u122 u123 u124 u125 u126 u127 u128 u129 u130 u131 u132 u133 u134 u135 u136 u137 u138 u139 u140 u141 u142 u143 u144 u145 u146 u147 u148 u149 u150 u151 u152 u153 u154 u155 u156 u157 u158 u159 u160 u161 u162 u163 u164 u165 u166 u167 u168 u169 u170 u171 u172 u173 u174 u175 u176 u177 u178 u179 u180 u181 u182 u183 u184 u185 u186 u187 u188 u189 u190 u191 u192 u193 u194 u195 u196 u197 u198 u199 u200 u201 u202 u203 u204 u205 u206 u207 u208 u209 u210 u211 u212 u213 u214 u215 u216 u217 u218 u219 u220 u221 u222 u223 u224 u225 u226 u227 u228 u229 u230 u231 u232 u233 u234 u235 u236 u237 u238 u239 u240 u241 u242 u243 u244 u245 u246 u247 u248 u249 u250 u251 u252 u253 u254 u255 u256 u257 u258 u259 u260 u261 u262 u263 u264 u265 u266 u267 u268 u269 u270 u271 u272 u273 u274 : Value} (ok : Ok x xs) (h : Env w W L x a0 a5 xs) (ha : TVar W ga (timeOf (nextO x))) :
    Code.wp Yba.prog (piece Yba.f4.body 21) (bodyPost Yba.prog Yba.f4 (Yes w)) ⟨#[.slice a0 x.n q0, u1, u2, u3, u4, .slice a5 x.m q5, .bool x.lv, u7, u8, u9, u10, u11, u12, u13, u14, .int .i64 x.sf, .int .i64 (x.nS : Int), .int .i64 (x.k : Int), .int .i64 x.d, .pointer (some ⟨L, 0, none⟩), u20, u21, u22, u23, u24, .pointer (some ⟨ga, 0, none⟩), .string (stepOf (nextO x)), u27, u28, u29, u30, u31, u32, u33, u34, u35, u36, u37, u38, u39, u40, u41, u42, u43, u44, u45, u46, u47, u48, u49, u50, u51, u52, u53, u54, u55, u56, u57, u58, u59, u60, u61, u62, u63, u64, u65, u66, u67, u68, u69, u70, u71, u72, u73, u74, u75, u76, u77, u78, u79, u80, u81, u82, u83, u84, u85, u86, u87, u88, u89, u90, u91, u92, u93, u94, u95, u96, u97, u98, u99, u100, u101, u102, u103, u104, u105, u106, u107, u108, u109, u110, u111, u112, u113, u114, u115, u116, u117, u118, u119, u120, u121, u122, u123, u124, u125, u126, u127, u128, u129, u130, u131, u132, u133, u134, u135, u136, u137, u138, u139, u140, u141, u142, u143, u144, u145, u146, u147, u148, u149, u150, u151, u152, u153, u154, u155, u156, u157, u158, u159, u160, u161, u162, u163, u164, u165, u166, u167, u168, u169, u170, u171, u172, u173, u174, u175, u176, u177, u178, u179, u180, u181, u182, u183, u184, u185, u186, u187, u188, u189, u190, u191, u192, u193, u194, u195, u196, u197, u198, u199, u200, u201, u202, u203, u204, u205, u206, u207, u208, u209, u210, u211, u212, u213, u214, u215, u216, u217, u218, u219, u220, u221, u222, u223, u224, u225, u226, u227, u228, u229, u230, u231, u232, u233, u234, u235, u236, u237, u238, u239, u240, u241, u242, u243, u244, u245, u246, u247, u248, u249, u250, u251, u252, u253, u254, u255, u256, u257, u258, u259, u260, u261, u262, u263, u264, u265, u266, u267, u268, u269, u270, u271, u272, u273, u274], []⟩ W := by
  conv => arg 2; whnf; dsimp only
  obtain ⟨i2, e2a, e2b, e2c, e2d⟩ := info_parts info2
  obtain ⟨i57, e57a, e57b, e57c, e57d⟩ := info_parts info57
  have hsum := ok.sum
  have n0 : (0 : Int) ≤ (x.n : Int) := by omega
  have n1 : (x.n : Int) ≤ 65536 := by omega
  have m0 : (0 : Int) ≤ (x.m : Int) := by omega
  have m1 : (x.m : Int) ≤ 65536 := by omega
  obtain ⟨B, eB⟩ : ∃ B, B = W.heap.size := ⟨_, rfl⟩
  have EB := hide eB
  have KE : ∀ W', Below B W W' → Env w W' L x a0 a5 xs ∧ TVar W' ga (timeOf (nextO x)) := fun W' hb => by
    rw [eB] at hb
    exact ⟨h.below hb, ha.below hb ha.lt⟩
  have HK := hide KE
  have hB0 : Below B W W := Below.refl _ _
  clear KE h ha
  go_upto_if 101 with (fail)
  go_cut [27, 28, 29, 31] from 101 to 122 (fun t s _ _ W' => ∃ cs, Lst W B W' t s cs ∧ cs.length ≤ 1 ∧ best cs = oBeat x)
  case first =>
    by_cases hn : 0 < x.n
    · have hn' : (0 : Int) < (x.n : Int) := by omega
      obtain ⟨b, off, rfl⟩ := (HK.out _ hB0).1.g0.form hn
      have c0 : W.cell? ⟨b, off, none⟩ = some (.int .i64 (xs 0)) := (HK.out _ hB0).1.g0.cell b off rfl 0 hn
      go_wp2_with fail
      clear c0
      go_loopw [29, 31, 107] (fun mv _ y W' => ∃ (j : Nat) (m : Int), mv = .int .i64 m ∧ y = .int .i64 (j : Int) ∧ j ≤ x.n ∧ (∃ i, i < x.n ∧ m = xs i) ∧ (∀ i, i < j → m ≤ xs i) ∧ W' = W) (fun _ _ y _ => x.n - (intOf y).toNat)
      case atStart => exact ⟨0, xs 0, rfl, rfl, by omega, ⟨0, hn, rfl⟩, by omega, rfl⟩
      case round =>
        obtain ⟨j, m, rfl, rfl, hj, hm, hle, ew⟩ := hrel
        obtain rfl := ew.symm
        clear ew
        have HM := hide hm
        have HLE := hide hle
        clear hm hle
        have j0 : (0 : Int) ≤ (j : Int) := by omega
        have j2 : (j : Int) ≤ 65536 := by omega
        by_cases hlt : j < x.n
        · have j1 : (j : Int) < (x.n : Int) := by omega
          have c0 := (HK.out _ hB0).1.g0.cell b off rfl j hlt
          by_cases hxm : xs j < m
          · go_wp2
            refine ⟨⟨j + 1, xs j, rfl, by go_num, by omega, ⟨j, hlt, rfl⟩, fun i hi => ?_, trivial⟩, by simp [intOf]; omega⟩
            by_cases e : i = j
            · rw [e]; omega
            · have := HLE.out i (by omega); omega
          · have hxd : decide (xs j < m) = false := by simpa using hxm
            go_wp2
            refine ⟨⟨j + 1, m, rfl, by go_num, by omega, HM.out, fun i hi => ?_, trivial⟩, by simp [intOf]; omega⟩
            by_cases e : i = j
            · rw [e]; omega
            · exact HLE.out i (by omega)
        · have j1 : ¬ (j : Int) < (x.n : Int) := by omega
          have em : m = x.D (x.p 0) := by
            obtain ⟨i, hi, e⟩ := HM.out
            obtain ⟨i', hi', e'⟩ := ok.mem hn
            have q1 := ok.min i hi
            have q2 := HLE.out i' (by omega)
            omega
          subst em
          obtain ⟨cs, ecs⟩ : ∃ cs : List Cand, cs = [] := ⟨_, rfl⟩
          have hL : Lst W B W (.slice none 0 0) (.slice none 0 0) cs := by
            subst ecs
            exact ⟨World.ownsRow_nil _ _ _ _, World.ownsRow_nil _ _ _ _, Below.refl _ _, fun c hc => by simp at hc⟩
          have hwf : wf64 (x.D (x.p 0)) := by
            obtain ⟨i, hi, e⟩ := ok.mem hn
            rw [e]; exact ok.wx i hi
          have hcl := hide (show cs.length = 0 by rw [ecs]; rfl)
          have hl5 : cs.length ≤ 4 := by have := hcl.out; omega
          have ECS := hide ecs
          clear ecs
          go_upto_region 32 with (at_builtin; refine wpList_append_lies _ rfl _ _ 28 rfl B 2 i2 _ 1 8 Yba.underlying28 e2a e2b e2c e2d rfl (by omega) _ cs.length (rT cs) rfl (by exact hL.ts.alloc _) _ 1 1 [.int .i64 (x.D (x.p 0))] rfl rfl (by exact World.news_of_block (heap_alloc_new _ _)) (by simp [Value.oneCell']) (by omega) (by simp only [maxLen]; omega) (by omega) (by have := hL.bel.size; simp only [World.size_alloc]; omega) _ rfl ?_; intro gx capx wx hown hgrow hat hlt3; have hH := hL.half EB.out (by assumption) hown hgrow; clear hown hgrow hat hlt3)
          go_wp2_with (at_builtin; refine wpList_append_lies _ rfl _ _ 60 rfl B 57 i57 _ 1 16 Yba.underlying60 e57a e57b e57c e57d rfl (by omega) _ cs.length (rS cs) rfl (by exact hH.ss.alloc _) _ 1 1 [.string { data := #[98, 101, 97, 116] }] rfl rfl (by exact World.news_of_block (heap_alloc_new _ _)) (by simp [Value.oneCell']) (by omega) (by simp only [maxLen]; omega) (by omega) (by have := hH.bel.size; simp only [World.size_alloc]; omega) _ rfl ?_; intro gy capy wy hown hgrow hat hlt3; have hF := hH.full EB.out hown hgrow; clear hown hgrow hat hlt3)
          go_meet
          case rel =>
            refine ⟨cs ++ [(x.D (x.p 0), sBeat)], hF, by have := hcl.out; simp only [List.length_append, List.length_singleton]; omega, ?_⟩
            rw [best_add, ECS.out]
            unfold oBeat
            rw [if_pos hn]
            rfl
    · have hn' : ¬ (0 : Int) < (x.n : Int) := by omega
      go_wp2
      go_meet
      case rel => exact ⟨[], ⟨World.ownsRow_nil _ _ _ _, World.ownsRow_nil _ _ _ _, Below.refl _ _, fun c hc => by simp at hc⟩, by simp, by unfold oBeat; rw [if_neg hn]; rfl⟩
  case rest =>
  clear hB0
  obtain ⟨cs1, hL1, hl1, hb1⟩ := hcut
  have HB1 := hide hb1
  clear hb1
  rename World => w1
  go_upto_if 124 with (fail)
  rename_i hK
  by_cases hz : x.sf = 0
  · have HZ := hide hz
    have hz' : (x.sf != 0) = false := by simp [hz]
    clear hz
    go_cut [27, 28] from 124 to 174 (fun t s W' => Lst W B W' t s cs1)
    case first =>
      go_wp2
      go_meet
      case rel => exact hL1
    case rest =>
    clear hL1
    have hL1 := hcut
    obtain ⟨h5, ha5⟩ := HK.out _ hL1.bel
    have eb : best cs1 = nextO x := by
      rw [HB1.out]
      unfold nextO
      rw [if_pos HZ.out]
    exact hK _ _ (part_43 ok h5 ha5 (hL1.cds (by omega)) eb)
  have HZ := hide hz
  have hz' : (x.sf != 0) = true := by simp [hz]
  have k0 : (0 : Int) ≤ (x.k : Int) := by omega
  have k1 : (x.k : Int) ≤ 41 := by have := ok.small.k1; omega
  have s0 : (0 : Int) ≤ (x.nS : Int) := by omega
  have s1 : (x.nS : Int) ≤ 39 := by have := ok.small.s1; omega
  have f0 := ok.small.f0
  have f1 := ok.small.f1
  have g0 := ok.small.d0
  have g1 := ok.small.d1
  go_upto_if 127 with (fail)
  go_cut [27, 28] from 124 to 141 (fun t s W' => ∃ cs, Lst W B W' t s cs ∧ cs.length ≤ 2 ∧ best cs = oStop x (oBeat x))
  case first =>
    by_cases hks : x.k < x.nS
    · have hks' : (x.k : Int) < (x.nS : Int) := by omega
      have hq : ¬ (x.nS : Int) = 0 := by omega
      have hq' : ((x.nS : Int) == 0) = false := by simp; omega
      obtain ⟨M, eM⟩ : ∃ M, M = x.d * ((x.k : Int) + 1) := ⟨_, rfl⟩
      have hM : -45097156608 ≤ M ∧ M ≤ 45097156608 := by
        have q1 : M.natAbs ≤ 1073741824 * 42 := by
          rw [eM, Int.natAbs_mul]
          exact Nat.mul_le_mul (by omega) (by omega)
        omega
      obtain ⟨T, eT⟩ : ∃ T, T = M.tdiv (x.nS : Int) := ⟨_, rfl⟩
      have hT : -45097156608 ≤ T ∧ T ≤ 45097156608 := by
        have q2 : T.natAbs ≤ 45097156608 := by
          rw [eT, Int.natAbs_tdiv]
          exact Nat.le_trans (Nat.div_le_self _ _) (by omega)
        omega
      obtain ⟨hM0, hM1⟩ := hM
      obtain ⟨hT0, hT1⟩ := hT
      have e1 : oStop x (oBeat x) = cons (oBeat x) (x.sf + T, sStop) := by
        unfold oStop
        rw [if_pos hks, eT, eM]
        simp
      have HE1 := hide e1
      have hwf : wf64 (x.sf + T) := ⟨by omega, by omega⟩
      have eM' := eM.symm
      have eT' := eT.symm
      clear eM eT
      obtain ⟨cs, ecs⟩ : ∃ cs, cs = cs1 := ⟨_, rfl⟩
      rw [← ecs] at hL1 hl1 HB1
      have hL := hL1
      clear e1 ecs hL1
      go_upto_region 36 with (at_builtin; refine wpList_append_lies _ rfl _ _ 28 rfl B 2 i2 _ 1 8 Yba.underlying28 e2a e2b e2c e2d rfl (by omega) _ cs.length (rT cs) rfl (by exact hL.ts.alloc _) _ 1 1 [.int .i64 (x.sf + T)] rfl rfl (by exact World.news_of_block (heap_alloc_new _ _)) (by simp [Value.oneCell']) (by omega) (by simp only [maxLen]; omega) (by omega) (by have := hL.bel.size; simp only [World.size_alloc]; omega) _ rfl ?_; intro gx capx wx hown hgrow hat hlt3; have hH := hL.half EB.out (by assumption) hown hgrow; clear hown hgrow hat hlt3)
      go_wp2_with (at_builtin; refine wpList_append_lies _ rfl _ _ 60 rfl B 57 i57 _ 1 16 Yba.underlying60 e57a e57b e57c e57d rfl (by omega) _ cs.length (rS cs) rfl (by exact hH.ss.alloc _) _ 1 1 [.string { data := #[115, 116, 111, 112] }] rfl rfl (by exact World.news_of_block (heap_alloc_new _ _)) (by simp [Value.oneCell']) (by omega) (by simp only [maxLen]; omega) (by omega) (by have := hH.bel.size; simp only [World.size_alloc]; omega) _ rfl ?_; intro gy capy wy hown hgrow hat hlt3; have hF := hH.full EB.out hown hgrow; clear hown hgrow hat hlt3)
      go_meet
      case rel =>
        refine ⟨_, hF, by simp; omega, ?_⟩
        rw [best_add, HE1.out, HB1.out]
        rfl
    · have hks' : ¬ (x.k : Int) < (x.nS : Int) := by omega
      go_wp2
      go_meet
      case rel => exact ⟨cs1, hL1, by omega, by unfold oStop; rw [if_neg hks]; exact HB1.out⟩
  case rest =>
  clear HB1 hL1 hl1
  obtain ⟨cs2, hL2, hl2, hb2⟩ := hcut
  have HB2 := hide hb2
  clear hb2
  rename World => w2
  obtain ⟨o2, eo2⟩ : ∃ o, o = oStop x (oBeat x) := ⟨_, rfl⟩
  have EO2 := hide eo2
  rw [← eo2] at HB2
  clear eo2
  go_upto_if 144 with (fail)
  go_cut [27, 28] from 144 to 153 (fun t s W' => ∃ cs, Lst W B W' t s cs ∧ cs.length ≤ 3 ∧ best cs = oRest x o2)
  case first =>
    by_cases hm : 0 < x.m
    · have hm' : (0 : Int) < (x.m : Int) := by omega
      obtain ⟨b, off, rfl⟩ := (HK.out _ hL2.bel).1.g5.form hm
      have c0 : w2.cell? ⟨b, off, none⟩ = some (.int .i64 (x.R 0)) := (HK.out _ hL2.bel).1.g5.cell b off rfl 0 hm
      have hwf : wf64 (x.R 0) := ok.wy 0 hm
      have e1 : oRest x o2 = cons o2 (x.R 0, sRest) := by
        unfold oRest
        rw [if_pos hm]
      have HE1 := hide e1
      obtain ⟨cs, ecs⟩ : ∃ cs, cs = cs2 := ⟨_, rfl⟩
      rw [← ecs] at hL2 hl2 HB2
      have hL := hL2
      clear e1 ecs hL2
      go_upto_region 39 with (at_builtin; refine wpList_append_lies _ rfl _ _ 28 rfl B 2 i2 _ 1 8 Yba.underlying28 e2a e2b e2c e2d rfl (by omega) _ cs.length (rT cs) rfl (by exact hL.ts.alloc _) _ 1 1 [.int .i64 (x.R 0)] rfl rfl (by exact World.news_of_block (heap_alloc_new _ _)) (by simp [Value.oneCell']) (by omega) (by simp only [maxLen]; omega) (by omega) (by have := hL.bel.size; simp only [World.size_alloc]; omega) _ rfl ?_; intro gx capx wx hown hgrow hat hlt3; have hH := hL.half EB.out (by assumption) hown hgrow; clear hown hgrow hat hlt3)
      go_wp2_with (at_builtin; refine wpList_append_lies _ rfl _ _ 60 rfl B 57 i57 _ 1 16 Yba.underlying60 e57a e57b e57c e57d rfl (by omega) _ cs.length (rS cs) rfl (by exact hH.ss.alloc _) _ 1 1 [.string { data := #[114, 101, 115, 116, 97, 114, 116] }] rfl rfl (by exact World.news_of_block (heap_alloc_new _ _)) (by simp [Value.oneCell']) (by omega) (by simp only [maxLen]; omega) (by omega) (by have := hH.bel.size; simp only [World.size_alloc]; omega) _ rfl ?_; intro gy capy wy hown hgrow hat hlt3; have hF := hH.full EB.out hown hgrow; clear hown hgrow hat hlt3)
      go_meet
      case rel =>
        refine ⟨_, hF, by simp; omega, ?_⟩
        rw [best_add, HE1.out, HB2.out]
        rfl
    · have hm' : ¬ (0 : Int) < (x.m : Int) := by omega
      go_wp2
      go_meet
      case rel => exact ⟨cs2, hL2, by omega, by unfold oRest; rw [if_neg hm]; exact HB2.out⟩
  case rest =>
  clear HB2 hL2 hl2
  obtain ⟨cs3, hL3, hl3, hb3⟩ := hcut
  have HB3 := hide hb3
  clear hb3
  rename World => w3
  obtain ⟨o3, eo3⟩ : ∃ o, o = oRest x o2 := ⟨_, rfl⟩
  have EO3 := hide eo3
  rw [← eo3] at HB3
  clear eo3
  go_upto_region 40 with (fail)
  go_cut [6, 165] from 154 to 165 (fun l c W' => l = .bool x.lv ∧ c = .bool (decide (x.lv = false ∧ x.k = x.nS ∧ x.m = 0)) ∧ W' = w3)
  case first =>
    cases hlv : x.lv with
    | true =>
      go_wp2
      go_meet
      case rel => exact ⟨by simp [hlv], by simp [hlv], rfl⟩
    | false =>
      by_cases hks : x.k = x.nS
      · have hks1 : ((x.k : Int) == (x.nS : Int)) = true := by simp [hks]
        by_cases hm : x.m = 0
        · have hm1 : ((x.m : Int) == 0) = true := by simp [hm]
          go_wp2
          go_meet
          case rel => exact ⟨by simp [hlv], by simp [hlv, hks, hm], rfl⟩
        · have hm1 : ((x.m : Int) == 0) = false := by simp; omega
          have hm2 : (x.m == 0) = false := by simp; omega
          go_wp2
          go_meet
          case rel => exact ⟨by simp [hlv], by simp [hlv, hm], rfl⟩
      · have hks1 : ((x.k : Int) == (x.nS : Int)) = false := by simp; omega
        have hks2 : (x.k == x.nS) = false := by simp; omega
        go_wp2
        go_meet
        case rel => exact ⟨by simp [hlv], by simp [hlv, hks], rfl⟩
  case rest =>
  obtain ⟨rfl, rfl, rfl⟩ := hcut
  rename World => w3
  go_upto_if 165 with (fail)
  go_cut [27, 28] from 165 to 174 (fun t s W' => ∃ cs, Lst W B W' t s cs ∧ cs.length ≤ 4 ∧ best cs = oLeave x o3)
  case first =>
    by_cases hl : x.lv = false ∧ x.k = x.nS ∧ x.m = 0
    · have hwf : wf64 (x.sf + x.d) := ⟨by omega, by omega⟩
      have e1 : oLeave x o3 = cons o3 (x.sf + x.d, sLeave) := by
        unfold oLeave
        rw [if_pos hl]
      have HE1 := hide e1
      rw [show decide (x.lv = false ∧ x.k = x.nS ∧ x.m = 0) = true by simpa using hl]
      clear hl
      obtain ⟨cs, ecs⟩ : ∃ cs, cs = cs3 := ⟨_, rfl⟩
      rw [← ecs] at hL3 hl3 HB3
      have hL := hL3
      clear e1 ecs hL3
      go_upto_region 42 with (at_builtin; refine wpList_append_lies _ rfl _ _ 28 rfl B 2 i2 _ 1 8 Yba.underlying28 e2a e2b e2c e2d rfl (by omega) _ cs.length (rT cs) rfl (by exact hL.ts.alloc _) _ 1 1 [.int .i64 (x.sf + x.d)] rfl rfl (by exact World.news_of_block (heap_alloc_new _ _)) (by simp [Value.oneCell']) (by omega) (by simp only [maxLen]; omega) (by omega) (by have := hL.bel.size; simp only [World.size_alloc]; omega) _ rfl ?_; intro gx capx wx hown hgrow hat hlt3; have hH := hL.half EB.out (by assumption) hown hgrow; clear hown hgrow hat hlt3)
      go_wp2_with (at_builtin; refine wpList_append_lies _ rfl _ _ 60 rfl B 57 i57 _ 1 16 Yba.underlying60 e57a e57b e57c e57d rfl (by omega) _ cs.length (rS cs) rfl (by exact hH.ss.alloc _) _ 1 1 [.string { data := #[108, 101, 97, 118, 101] }] rfl rfl (by exact World.news_of_block (heap_alloc_new _ _)) (by simp [Value.oneCell']) (by omega) (by simp only [maxLen]; omega) (by omega) (by have := hH.bel.size; simp only [World.size_alloc]; omega) _ rfl ?_; intro gy capy wy hown hgrow hat hlt3; have hF := hH.full EB.out hown hgrow; clear hown hgrow hat hlt3)
      go_meet
      case rel =>
        refine ⟨_, hF, by simp; omega, ?_⟩
        rw [best_add, HE1.out, HB3.out]
        rfl
    · have e1 : oLeave x o3 = o3 := by
        unfold oLeave
        rw [if_neg hl]
      have HE1 := hide e1
      rw [show decide (x.lv = false ∧ x.k = x.nS ∧ x.m = 0) = false by simpa using hl]
      clear hl e1
      go_wp2
      go_meet
      case rel => exact ⟨cs3, hL3, by omega, HB3.out.trans HE1.out.symm⟩
  case rest =>
  obtain ⟨cs4, hL4, hl4, hb4⟩ := hcut
  have HB4 := hide hb4
  clear hb4
  obtain ⟨h5, ha5⟩ := HK.out _ hL4.bel
  have eb : best cs4 = nextO x := by
    rw [HB4.out]
    unfold nextO
    rw [if_neg HZ.out, EO3.out, EO2.out]
  exact hK _ _ (part_43 ok h5 ha5 (hL4.cds hl4) eb)
end Go.Proofs.Ybulkfhta.B
