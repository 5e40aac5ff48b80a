/-
  The walk of the law: what stands behind the loop.
-/
import Derived.Test.YbulkfhsmBCut
namespace Go.Proofs.Ybulkfhsm.B
open Go.RowKit
attribute [local go_sem ↓] Go.wp_at_zero Go.wp_at_succ

set_option maxRecDepth 100000 in
set_option maxHeartbeats 16000000 in
theorem case_T {w W1 : World} {base i : Nat} {u0 u1 u2 u7 u8 u9 u10 u11 u12 u13 u14 u15 u16 u17 u18 u19 u20 u21 u22 u23 u24 u25 u26 u27 u28 u29 u30 u31 u32 u33 u34 u35 u36 u37 u38 u39 u40 u41 u42 u43 u44 u45 u46 u47 u48 u49 u50 u51 u52 u53 u54 u55 u56 u57 u58 u59 u60 u61 u62 u63 u64 u65 u66 u67 u68 u69 u70 u71 u72 u73 u74 u75 u76 u77 u78 u79 u80 u81 u82 u83 u84 u85 u86 u87 u88 u89 u90 u91 u92 u93 u94 u95 u96 u97 u98 u99 u100 u101 u102 u103 u104 u105 u106 u107 u108 u109 u110 u111 u112 u113 u114 u115 u116 u117 u118 u119 u120 u121 u122 u123 u124 u125 u126 u127 u128 u129 u130 u131 u132 u133 u134 u135 u136 u137 u138 u139 u140 u141 u142 u143 u144 u145 u146 u147 u148 u149 u150 u151 u152 u153 u154 u155 u156 u157 u158 u159 u160 u161 u162 u163 u164 u165 u166 u167 u168 u169 u170 u171 u172 u173 u174 u175 u176 u177 u178 u179 u180 u181 u182 u183 u184 u185 u186 u187 u188 u189 u190 u191 u192 u193 u194 u195 u196 u197 u198 u199 u200 u201 u202 u203 u204 u205 u206 u207 u208 u209 u210 u211 u212 u213 u214 u215 u216 u217 u218 u219 u220 u221 u222 u223 u224 u225 u226 u227 u228 u229 u230 u231 u232 u233 u234 u235 u236 u237 u238 u239 u240 u241 u242 u243 u244 u245 u246 u247 u248 u249 u250 : Value} (HB : Hid (base = w.heap.size)) (hi : i ≤ 4096) (hI : Inv w W1 base i) :
    Code.wp Yba.prog (piece Yba.f4.body 33) (bodyPost Yba.prog Yba.f4 fun e w' => e = .returned (.bool true) ∧ Below w.heap.size w w') ⟨#[u0, u1, u2, .pointer (some ⟨base + 1, 0, none⟩), .pointer (some ⟨base + 2, 0, none⟩), .pointer (some ⟨base + 3, 0, none⟩), .pointer (some ⟨base + 4, 0, none⟩), u7, u8, u9, u10, u11, u12, u13, u14, u15, u16, u17, u18, u19, u20, u21, u22, u23, u24, u25, u26, u27, u28, u29, u30, u31, u32, u33, u34, u35, u36, u37, u38, u39, u40, u41, u42, u43, u44, u45, u46, u47, u48, u49, u50, u51, u52, u53, u54, u55, u56, u57, u58, u59, u60, u61, u62, u63, u64, u65, u66, u67, u68, u69, u70, u71, u72, u73, u74, u75, u76, u77, u78, u79, u80, u81, u82, u83, u84, u85, u86, u87, u88, u89, u90, u91, u92, u93, u94, u95, u96, u97, u98, u99, u100, u101, u102, u103, u104, u105, u106, u107, u108, u109, u110, u111, u112, u113, u114, u115, u116, u117, u118, u119, u120, u121, u122, u123, u124, u125, u126, u127, u128, u129, u130, u131, u132, u133, u134, u135, u136, u137, u138, u139, u140, u141, u142, u143, u144, u145, u146, u147, u148, u149, u150, u151, u152, u153, u154, u155, u156, u157, u158, u159, u160, u161, u162, u163, u164, u165, u166, u167, u168, u169, u170, u171, u172, u173, u174, u175, u176, u177, u178, u179, u180, u181, u182, u183, u184, u185, u186, u187, u188, u189, u190, u191, u192, u193, u194, u195, u196, u197, u198, u199, u200, u201, u202, u203, u204, u205, u206, u207, u208, u209, u210, u211, u212, u213, u214, u215, u216, u217, u218, u219, u220, u221, u222, u223, u224, u225, u226, u227, u228, u229, u230, u231, u232, u233, u234, u235, u236, u237, u238, u239, u240, u241, u242, u243, u244, u245, u246, u247, u248, u249, u250], []⟩ W1 := by
  conv => arg 2; whnf

  go_wp2_with fail
  go_loopw [14] (fun x W => ∃ q : Nat, q ≤ 2 ∧ x = .int .i64 (q : Int) ∧ Inv w W base i) (fun x _ => 2 - (intOf x).toNat)
  case atStart => exact ⟨0, by omega, rfl, hI⟩
  clear hI
  case round =>
  obtain ⟨k, hk2, rfl, hI⟩ := hrel
  obtain ⟨hdr, n, ns, fr, t, vp, vx, mp, mx, l, fl, hM, hS, hn, hml⟩ := hI
  by_cases hk : k < 2
  · have k1 : (0 : Int) ≤ (k : Int) := by omega
    have k2 : (k : Int) < 2 := by omega
    obtain ⟨ap, cp, evp⟩ := row_form' (hM.mpo k hk)
    obtain ⟨aq, cq, evq⟩ := row_form' (hM.mxo k hk)
    have m3 := hM.mpc k hk
    rw [evp] at m3
    have m4 := hM.mxc k hk
    rw [evq] at m4
    have hlk : ((mp k).length : Int) ≤ 4096 := by have := hml k hk; omega
    have hlx : (mx k).length = (mp k).length := hS.len k hk
    rw [hlx] at m4 evq
    have HLX := hide hlx
    clear hlx
    go_upto_block 6 with (fail)
    go_cut [15] from 173 to 241 (fun x W => W = wr ∧ x = .int .i64 (wantF ((mp k).zip (mx k))))
    case first =>
      go_wp2_with fail
      go_loopw [15, 16] (fun x y W => W = wr ∧ ∃ q : Nat, q ≤ (mp k).length ∧ y = .int .i64 (q : Int) ∧ x = .int .i64 ((((mp k).zip (mx k)).take q).foldl wantStep (-1))) (fun _ y _ => (mp k).length - (intOf y).toNat)
      case atStart => exact ⟨rfl, 0, by omega, rfl, rfl⟩
      case round =>
        obtain ⟨ew, q, hq, rfl, rfl⟩ := hrel
        obtain rfl := ew.symm
        by_cases hql : q < (mp k).length
        · obtain ⟨g, rfl⟩ : ∃ g, ap = some ⟨g, 0, none⟩ := by
            rcases (hM.mpo k hk).2 with ⟨e, e'⟩ | ⟨g, cap, cur, e, _⟩
            · omega
            · rw [evp] at e; simp only [Value.slice.injEq] at e; exact ⟨g, e.1⟩
          obtain ⟨g', rfl⟩ : ∃ g, aq = some ⟨g, 0, none⟩ := by
            rcases (hM.mxo k hk).2 with ⟨e, e'⟩ | ⟨g, cap, cur, e, _⟩
            · have := HLX.out; omega
            · rw [evq] at e; simp only [Value.slice.injEq] at e; exact ⟨g, e.1⟩
          have hql' : q < (mx k).length := by rw [HLX.out]; exact hql
          have cg : wr.cell? ⟨g, q, none⟩ = some (.int .i64 (mp k)[q]) := by
            have h1 := hM.mpo k hk
            rw [evp] at h1
            rw [h1.cellAt q (by omega), List.getElem?_map, List.getElem?_eq_getElem hql]; rfl
          have cg' : wr.cell? ⟨g', q, none⟩ = some (.bool (mx k)[q]) := by
            have h1 := hM.mxo k hk
            rw [evq, HLX.out] at h1
            rw [h1.cellAt q (by omega), List.getElem?_map, List.getElem?_eq_getElem hql']; rfl
          have hstep : (((mp k).zip (mx k)).take (q + 1)).foldl wantStep (-1) = wantStep ((((mp k).zip (mx k)).take q).foldl wantStep (-1)) ((mp k)[q], (mx k)[q]) := by
            rw [List.take_succ_eq_append_getElem (by rw [List.length_zip]; omega), List.foldl_append, List.getElem_zip]; rfl
          generalize ((((mp k).zip (mx k)).take q).foldl wantStep (-1)) = x at hstep ⊢
          generalize (mp k)[q] = y at hstep cg
          generalize (mx k)[q] = e at hstep cg'
          have HS := hide hstep
          clear hstep evp evq
          have q1 : (0 : Int) ≤ (q : Int) := by omega
          have q2 : (q : Int) < ((mp k).length : Int) := by omega
          cases e
          · have e2 : wantStep x (y, false) = x := by simp [wantStep]
            have E2 := hide e2
            clear e2
            go_wp2
            exact ⟨⟨by trivial, q + 1, by omega, by go_num, by rw [HS.out, E2.out]⟩, by simp [intOf]; omega⟩
          · by_cases h1 : x = -1
            · have e2 : wantStep x (y, true) = y := by simp [wantStep, h1]
              have E2 := hide e2
              have hd : (x == -1) = true := by simpa using h1
              clear e2 h1
              go_wp2
              exact ⟨⟨by trivial, q + 1, by omega, by go_num, by rw [HS.out, E2.out]⟩, by simp [intOf]; omega⟩
            · have hd : (x == -1) = false := by simpa using h1
              by_cases h2 : y < x
              · have e2 : wantStep x (y, true) = y := by simp [wantStep, h2]
                have E2 := hide e2
                clear e2 h1
                go_wp2
                exact ⟨⟨by trivial, q + 1, by omega, by go_num, by rw [HS.out, E2.out]⟩, by simp [intOf]; omega⟩
              · have e2 : wantStep x (y, true) = x := by simp [wantStep, h2, h1]
                have E2 := hide e2
                clear e2 h1
                go_wp2
                exact ⟨⟨by trivial, q + 1, by omega, by go_num, by rw [HS.out, E2.out]⟩, by simp [intOf]; omega⟩
        · clear evp evq
          go_wp2
          go_meet
          case rel =>
            refine ⟨rfl, ?_⟩
            have : q = ((mp k).zip (mx k)).length := by rw [List.length_zip, HLX.out]; omega
            rw [this, List.take_length]; rfl
    case rest =>
    obtain ⟨ew, rfl⟩ := hcut
    obtain rfl := ew.symm
    rw [hS.want hk]
    clear m3 m4 evp evq
    have h0 := hM.pool.hd
    obtain ⟨f, hT⟩ := hS.tree k hk
    have hn4 : n ≤ 4096 := by omega
    go_wp2_with fail
    refine (clone_any hM.pool hn4 hM.size).mono ?_
    rintro e W2 ⟨v, rfl, hv, hg2⟩
    have hM2 := hM.grown (Kept.grown hg2 (by simp))
    clear h0
    have h0 := hM2.pool.hd
    have hf := hM2.free
    obtain ⟨qr, hqr⟩ := hM2.rng
    have hrt := hM2.root k hk
    go_wp2_with fail
    go_quiet (fail)
    go_wp2_with fail
    refine (first_any (hM2.drewN _).pool hT).mono ?_
    rintro e W3 ⟨rfl, m3, rfl⟩
    go_wp2_with fail
    refine (equal_any (by exact hM2.pool.own) (by exact hv) hn4).mono ?_
    rintro e W4 ⟨rfl, m4, rfl⟩
    go_wp2
    exact ⟨⟨k + 1, by omega, by go_num, hdr, n, ns, fr, t, vp, vx, mp, mx, l, fl, hM2.drewN _, hS, hn, hml⟩, by simp [intOf]; omega⟩
  · have hk' : ¬ (k : Int) < 2 := by omega
    have h0 := hM.pool.hd
    have hn4 : n ≤ 4096 := by omega
    go_wp2_with fail
    refine (clone_any hM.pool hn4 hM.size).mono ?_
    rintro e W2 ⟨v, rfl, hv, hg2⟩
    have hM2 := hM.grown (Kept.grown hg2 (by simp))
    clear h0
    have h0 := hM2.pool.hd
    go_wp2_with fail
    refine (first_any hM2.pool (T.nil n ns 0)).mono ?_
    rintro e W3 ⟨rfl, m3, rfl⟩
    have hfe : feP ns [] = -1 := rfl
    go_wp2_with fail
    refine (equal_any (by exact hM2.pool.own) (by exact hv) hn4).mono ?_
    rintro e W4 ⟨rfl, m4, rfl⟩
    go_wp2
    go_ret
    exact ⟨rfl, by rw [← HB.out]; exact (hM2.drewN _).below⟩
end Go.Proofs.Ybulkfhsm.B
