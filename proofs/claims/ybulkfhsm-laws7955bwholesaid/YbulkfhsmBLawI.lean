/-
  The walk of the law: the third case.
-/
import Derived.Test.YbulkfhsmBCut
namespace Go.Proofs.Ybulkfhsm.B
open Go.RowKit
attribute [local go_sem ↓] Go.wp_at_zero Go.wp_at_succ

set_option maxRecDepth 100000 in
set_option maxHeartbeats 16000000 in
theorem case_I {w W1 : World} {base n N k i : Nat} {hdr : Value} {ns : Nat → Nd} {fr : Int} {t : Nat → Int} {vp vx : Nat → Value} {mp : Nat → List Int} {mx : Nat → List Bool} {l : Nat → List Nat} {fl : List Nat} {op pl tx nm : Int} {ex : Bool}
    {u0 u1 u2 u7 u10 u12 u13 u14 u15 u16 u17 u18 u19 u20 u21 u22 u23 u24 u25 u26 u27 u28 u29 u30 u31 u32 u33 u34 u35 u36 u37 u38 u39 u40 u41 u42 u43 u44 u45 u46 u47 u48 u49 u50 u51 u52 u53 u54 u55 u56 u57 u58 u59 u60 u61 u62 u63 u64 u65 u66 u67 u68 u69 u70 u71 u72 u73 u74 u75 u76 u77 u78 u79 u80 u81 u82 u83 u84 u85 u86 u87 u88 u89 u90 u91 u92 u93 u94 u95 u96 u97 u98 u99 u100 u101 u102 u103 u104 u105 u106 u107 u108 u109 u110 u111 u112 u113 u114 u115 u116 u117 u118 u119 u120 u121 u122 u123 u124 u125 u126 u127 u128 u129 u130 u131 u132 u133 u134 u135 u136 u137 u138 u139 u140 u141 u142 u143 u144 u145 u146 u147 u148 u149 u150 u151 u152 u153 u154 u155 u156 u157 u158 u159 u160 u161 u162 u163 u164 u165 u166 u167 u168 u169 u170 u171 u172 u173 u174 u175 u176 u177 u178 u179 u180 u181 u182 u183 u184 u185 u186 u187 u188 u189 u190 u191 u192 u193 u194 u195 u196 u197 u198 u199 u200 u201 u202 u203 u204 u205 u206 u207 u208 u209 u210 u211 u212 u213 u214 u215 u216 u217 u218 u219 u220 u221 u222 u223 u224 u225 u226 u227 u228 u229 u230 u231 u232 u233 u234 u235 u236 u237 u238 u239 u240 u241 u242 u243 u244 u245 u246 u247 u248 u249 u250 : Value} {Q0 : Act → World → Prop} (pl0 : 0 ≤ pl) (pl1 : pl ≤ 65535)
    (hM1 : Mem w W1 base hdr n ns fr t vp vx mp mx) (hS : SemL n ns fr t mp mx l fl) (sb : Sb W1 N base hdr vp vx op pl tx nm ex) (hn : n ≤ i) (hml : ∀ k, k < 2 → (mp k).length ≤ i) (hk : k < 2) (hi : i < 4096) (hnew : pl ∉ mp k)
    (hexit : ∀ (v10 v30 v31 v32 v33 v34 v35 v36 v37 v38 v39 v40 v41 v42 v43 v44 v45 v46 v47 v48 v49 v50 v51 v52 v53 v54 v55 v56 v57 v58 v59 v60 v61 v62 v63 v64 v65 v66 v67 v68 v69 v70 v71 v72 v73 v74 v75 v76 v77 v78 v79 v80 v81 v82 v83 v84 v85 v86 v87 v88 v89 v90 v91 v92 v93 v94 v95 v96 v97 v98 v99 v100 v101 v102 v103 v104 v105 v106 v107 v108 v109 v110 v111 v112 v113 v114 v115 v116 v117 v118 v119 v120 v121 v122 v123 v124 v125 v126 v127 v128 v129 v130 v131 v132 v133 v134 v135 v136 v137 v138 v139 v140 v141 v142 v143 v144 v145 v146 v147 v148 v149 v150 v151 v152 v153 v154 v155 v156 v157 v158 v159 v160 v161 v162 v163 v164 v165 v166 v167 v168 v169 v170 v171 v172 : Value) (W : World), Inv w W base (i + 1) → Q0 ⟨#[u0, u1, u2, .pointer (some ⟨base + 1, 0, none⟩), .pointer (some ⟨base + 2, 0, none⟩), .pointer (some ⟨base + 3, 0, none⟩), .pointer (some ⟨base + 4, 0, none⟩), u7, .pointer (some ⟨N, 0, none⟩), .int .i64 (k : Int), v10, .int .i64 pl, u12, u13, u14, u15, u16, u17, u18, u19, u20, u21, u22, u23, u24, u25, u26, u27, u28, u29, v30, v31, v32, v33, v34, v35, v36, v37, v38, v39, v40, v41, v42, v43, v44, v45, v46, v47, v48, v49, v50, v51, v52, v53, v54, v55, v56, v57, v58, v59, v60, v61, v62, v63, v64, v65, v66, v67, v68, v69, v70, v71, v72, v73, v74, v75, v76, v77, v78, v79, v80, v81, v82, v83, v84, v85, v86, v87, v88, v89, v90, v91, v92, v93, v94, v95, v96, v97, v98, v99, v100, v101, v102, v103, v104, v105, v106, v107, v108, v109, v110, v111, v112, v113, v114, v115, v116, v117, v118, v119, v120, v121, v122, v123, v124, v125, v126, v127, v128, v129, v130, v131, v132, v133, v134, v135, v136, v137, v138, v139, v140, v141, v142, v143, v144, v145, v146, v147, v148, v149, v150, v151, v152, v153, v154, v155, v156, v157, v158, v159, v160, v161, v162, v163, v164, v165, v166, v167, v168, v169, v170, v171, v172, u173, u174, u175, u176, u177, u178, u179, u180, u181, u182, u183, u184, u185, u186, u187, u188, u189, u190, u191, u192, u193, u194, u195, u196, u197, u198, u199, u200, u201, u202, u203, u204, u205, u206, u207, u208, u209, u210, u211, u212, u213, u214, u215, u216, u217, u218, u219, u220, u221, u222, u223, u224, u225, u226, u227, u228, u229, u230, u231, u232, u233, u234, u235, u236, u237, u238, u239, u240, u241, u242, u243, u244, u245, u246, u247, u248, u249, u250], []⟩ W) :
    Code.wp Yba.prog (piece Yba.f4.body 29) (QN Q0) ⟨#[u0, u1, u2, .pointer (some ⟨base + 1, 0, none⟩), .pointer (some ⟨base + 2, 0, none⟩), .pointer (some ⟨base + 3, 0, none⟩), .pointer (some ⟨base + 4, 0, none⟩), u7, .pointer (some ⟨N, 0, none⟩), .int .i64 (k : Int), u10, .int .i64 pl, u12, u13, u14, u15, u16, u17, u18, u19, u20, u21, u22, u23, u24, u25, u26, u27, u28, u29, u30, u31, u32, u33, u34, u35, u36, u37, u38, u39, u40, u41, u42, u43, u44, u45, u46, u47, u48, u49, u50, u51, u52, u53, u54, u55, u56, u57, u58, u59, u60, u61, u62, u63, u64, u65, u66, u67, u68, u69, u70, u71, u72, u73, u74, u75, u76, u77, u78, u79, u80, u81, u82, u83, u84, u85, u86, u87, u88, u89, u90, u91, u92, u93, u94, u95, u96, u97, u98, u99, u100, u101, u102, u103, u104, u105, u106, u107, u108, u109, u110, u111, u112, u113, u114, u115, u116, u117, u118, u119, u120, u121, u122, u123, u124, u125, u126, u127, u128, u129, u130, u131, u132, u133, u134, u135, u136, u137, u138, u139, u140, u141, u142, u143, u144, u145, u146, u147, u148, u149, u150, u151, u152, u153, u154, u155, u156, u157, u158, u159, u160, u161, u162, u163, u164, u165, u166, u167, u168, u169, u170, u171, u172, u173, u174, u175, u176, u177, u178, u179, u180, u181, u182, u183, u184, u185, u186, u187, u188, u189, u190, u191, u192, u193, u194, u195, u196, u197, u198, u199, u200, u201, u202, u203, u204, u205, u206, u207, u208, u209, u210, u211, u212, u213, u214, u215, u216, u217, u218, u219, u220, u221, u222, u223, u224, u225, u226, u227, u228, u229, u230, u231, u232, u233, u234, u235, u236, u237, u238, u239, u240, u241, u242, u243, u244, u245, u246, u247, u248, u249, u250], []⟩ W1 := by
  have k1 : (0 : Int) ≤ (k : Int) := by omega
  have k2 : (k : Int) < 2 := by omega
  have HX := hide hexit
  clear hexit
  conv => arg 2; whnf
  have hlk : ((mp k).length : Int) ≤ 4096 := by have := hml k hk; omega

  have c2 := sb.c2
  have c3 := sb.c3
  have c4 := sb.c4
  go_wp2_with fail
  go_cut [] from 30 to 172 (fun W => ∃ hdr' n', n' ≤ n + 1 ∧ St w W base hdr' n' vp vx mp mx (putAt mp k (mp k ++ [pl])) (putAt mx k (mx k ++ [ex])) N op pl tx nm ex)
  case first =>
    go_region_with (go_at_call 15; refine (mem_insert (hM1.drewN _) hS hk (by omega)).mono ?_; rintro e W2 ⟨rfl, hI⟩)
    all_goals
      go_wp2
      go_meet
      case rel => exact st_inserted (hM1.drewN _) hS (sb.kept ((Kept.refl (fun _ => False) _).drewN _) (fun e => e) sb.rows) hk pl0 pl1 hnew hI
  case rest =>
  clear c2 c3 c4 hM1 sb hnew
  obtain ⟨hdr', n', hn', ns2, fr2, t2, l2, fl2, hM2, hS2, sb2⟩ := hcut
  obtain ⟨ap, cp, evp⟩ := row_form' (hM2.mpo k hk)
  have m3 := hM2.mpc k hk
  rw [evp] at m3
  have own2 := hM2.mpo k hk
  rw [evp] at own2
  have fz := hM2.frz (base + 3) (by omega) (by omega)
  obtain ⟨i2, hi2, hz0, hz1, hz2⟩ := info_parts info2
  have hsz := hM2.size
  have HE := hide evp
  clear evp
  have HNE : some (base + 3) ≠ (Value.slice ap (mp k).length cp).ownBlock := fun e => by have := (own2.lt _ e.symm).1; omega
  go_upto_region 30 with (fail)
  go_cut [] from 30 to 172 (fun W => ∃ vp', St w W base hdr' n' vp' vx (putAt mp k (mp k ++ [pl])) mx (putAt mp k (mp k ++ [pl])) (putAt mx k (mx k ++ [ex])) N op pl tx nm ex)
  case first =>
    go_wp2_with (at_builtin; refine wpList_append_lies _ rfl _ _ _ rfl (base + 5) 2 i2 _ 1 8 Yba.underlying57 hi2 hz0 hz1 hz2 rfl (by omega) _ (mp k).length _ rfl (own2.alloc _) _ 1 1 [.int .i64 pl] rfl rfl (World.news_of_block (heap_alloc_new _ _)) (by simp [Value.oneCell']) (by omega) (by simp only [maxLen]; omega) (by omega) (by simp; omega) _ rfl ?_; intro g cap W3 hown hgrow hat hlt; have m33 := hgrow.cell (a := ⟨base + 3, k, none⟩) (v := .slice ap (mp k).length cp) (by rw [World.cell?_alloc_old _ _ _ (by show base + 3 ≠ _; omega)]; exact m3) HNE; have fz3 := fun o => (frozen_at (hgrow.block (base + 3) (by simp; omega) HNE) o).trans ((frozen_at (Below.heap_alloc _ _ _ (by omega)) o).trans (fz o)))
    go_meet
    case rel => exact st_add_mp hM2 hS2 sb2 hk (World.grownBy_alloc _ _ _) (by simp) hown (by rw [HE.out]; exact hgrow) (by rw [HE.out]; exact hat)
  case rest =>
  clear hM2 hS2 sb2 m3 own2 fz hi2 hz0 hz1 hz2 hsz HE HNE
  obtain ⟨vp', ns3, fr3, t3, l3, fl3, hM3, hS3, sb3⟩ := hcut
  obtain ⟨ap, cp, evp⟩ := row_form' (hM3.mxo k hk)
  have m3 := hM3.mxc k hk
  rw [evp] at m3
  have own2 := hM3.mxo k hk
  rw [evp] at own2
  have fz := hM3.frz (base + 4) (by omega) (by omega)
  obtain ⟨i2, hi2, hz0, hz1, hz2⟩ := info_parts info4
  have hsz := hM3.size
  have HE := hide evp
  have hxl : (mx k).length ≤ 4096 := by rw [hS.len k hk]; omega
  have c4 := sb3.c4
  have nlt := sb3.lt
  clear evp
  have HNE : some (base + 4) ≠ (Value.slice ap (mx k).length cp).ownBlock := fun e => by have := (own2.lt _ e.symm).1; omega
  have A1 : ∀ (o : Obj) (q : Nat), (wc.alloc o).cell? ⟨base + 4, q, none⟩ = wc.cell? ⟨base + 4, q, none⟩ := fun o q => World.cell?_alloc_old _ _ _ (by show base + 4 ≠ _; omega)
  go_wp2_with fail
  go_region_law ((refine step_append_lies _ (by rfl) _ _ _ (by rfl) (base + 5) 4 i2 _ 1 1 Yba.underlying40 hi2 hz0 hz1 hz2 rfl (by omega) _ (mx k).length _ (by rfl) (by exact own2.alloc _) _ 1 1 [.bool ex] (by rfl) (by rfl) (by exact World.news_of_block (heap_alloc_new _ _)) (by simp [Value.oneCell']) (by omega) (by simp only [maxLen]; omega) (by omega) (by simp; omega) _ rfl ?_; intro g cap W3 hown hgrow hat hlt; have m33 := hgrow.cell (a := ⟨base + 4, k, none⟩) (v := .slice ap (mx k).length cp) (by simp only [World.cell?_drew]; rw [A1]; exact m3) HNE; have fz3 := fun o => (frozen_at (hgrow.block (base + 4) (by simp; omega) HNE) o).trans ((frozen_at (Below.heap_alloc _ _ _ (by omega)) o).trans (fz o))))
  all_goals
    go_wp2
    obtain ⟨vx', hSt⟩ := st_add_mx hM3 hS3 sb3 hk (W2 := (wc.alloc _).drew) ⟨rfl, rfl, rfl, by simp, fun i hi _ => Below.heap_alloc _ _ _ hi⟩ (by simp) hown (by rw [HE.out]; exact hgrow) (by rw [HE.out]; exact hat)
    apply HX.out
    refine hSt.inv (by omega) ?_
    intro k' hk'
    by_cases e : k' = k
    · subst e; rw [putAt_same, List.length_append]; have := hml k' hk'; simp; omega
    · rw [putAt_other _ _ e]; have := hml k' hk'; omega
end Go.Proofs.Ybulkfhsm.B
