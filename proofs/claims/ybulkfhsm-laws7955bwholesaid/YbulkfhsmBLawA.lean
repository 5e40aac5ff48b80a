/-
  The walk of the law: the first case.
-/
import Derived.Test.YbulkfhsmBCut
namespace Go.Proofs.Ybulkfhsm.B
open Go.RowKit
attribute [local go_sem ↓] Go.wp_at_zero Go.wp_at_succ

set_option maxRecDepth 100000 in
set_option maxHeartbeats 16000000 in
theorem case_A {w W1 : World} {base n N k i : Nat} {hdr : Value} {ns : Nat → Nd} {fr : Int} {t : Nat → Int} {vp vx : Nat → Value} {mp : Nat → List Int} {mx : Nat → List Bool} {l : Nat → List Nat} {fl : List Nat} {op pl tx nm : Int} {ex : Bool}
    {u0 u1 u2 u7 u10 u11 u12 u13 u14 u15 u16 u17 u18 u19 u20 u21 u22 u23 u24 u25 u26 u27 u28 u29 u30 u31 u32 u33 u34 u35 u36 u37 u38 u39 u40 u41 u42 u43 u44 u45 u46 u47 u48 u49 u50 u51 u52 u53 u54 u55 u56 u57 u58 u59 u60 u61 u62 u63 u64 u65 u66 u67 u68 u69 u70 u71 u72 u73 u74 u75 u76 u77 u78 u79 u80 u81 u82 u83 u84 u85 u86 u87 u88 u89 u90 u91 u92 u93 u94 u95 u96 u97 u98 u99 u100 u101 u102 u103 u104 u105 u106 u107 u108 u109 u110 u111 u112 u113 u114 u115 u116 u117 u118 u119 u120 u121 u122 u123 u124 u125 u126 u127 u128 u129 u130 u131 u132 u133 u134 u135 u136 u137 u138 u139 u140 u141 u142 u143 u144 u145 u146 u147 u148 u149 u150 u151 u152 u153 u154 u155 u156 u157 u158 u159 u160 u161 u162 u163 u164 u165 u166 u167 u168 u169 u170 u171 u172 u173 u174 u175 u176 u177 u178 u179 u180 u181 u182 u183 u184 u185 u186 u187 u188 u189 u190 u191 u192 u193 u194 u195 u196 u197 u198 u199 u200 u201 u202 u203 u204 u205 u206 u207 u208 u209 u210 u211 u212 u213 u214 u215 u216 u217 u218 u219 u220 u221 u222 u223 u224 u225 u226 u227 u228 u229 u230 u231 u232 u233 u234 u235 u236 u237 u238 u239 u240 u241 u242 u243 u244 u245 u246 u247 u248 u249 u250 : Value} {Q0 : Act → World → Prop} (pl0 : 0 ≤ pl) (pl1 : pl ≤ 65535)
    (hM1 : Mem w W1 base hdr n ns fr t vp vx mp mx) (hS : SemL n ns fr t mp mx l fl) (sb : Sb W1 N base hdr vp vx op pl tx nm ex) (hn : n ≤ i) (hml : ∀ k, k < 2 → (mp k).length ≤ i) (hk : k < 2) (hc2 : 0 < (mp k).length)
    (hexit : ∀ (v10 v30 v31 v32 v33 v34 v35 v36 v37 v38 v39 v40 v41 v42 v43 v44 v45 v46 v47 v48 v49 v50 v51 v52 v53 v54 v55 v56 v57 v58 v59 v60 v61 v62 v63 v64 v65 v66 v67 v68 v69 v70 v71 v72 v73 v74 v75 v76 v77 v78 v79 v80 v81 v82 v83 v84 v85 v86 v87 v88 v89 v90 v91 v92 v93 v94 v95 v96 v97 v98 v99 v100 v101 v102 v103 v104 v105 v106 v107 v108 v109 v110 v111 v112 v113 v114 v115 v116 v117 v118 v119 v120 v121 v122 v123 v124 v125 v126 v127 v128 v129 v130 v131 v132 v133 v134 v135 v136 v137 v138 v139 v140 v141 v142 v143 v144 v145 v146 v147 v148 v149 v150 v151 v152 v153 v154 v155 v156 v157 v158 v159 v160 v161 v162 v163 v164 v165 v166 v167 v168 v169 v170 v171 v172 : Value) (W : World), Inv w W base (i + 1) → Q0 ⟨#[u0, u1, u2, .pointer (some ⟨base + 1, 0, none⟩), .pointer (some ⟨base + 2, 0, none⟩), .pointer (some ⟨base + 3, 0, none⟩), .pointer (some ⟨base + 4, 0, none⟩), u7, .pointer (some ⟨N, 0, none⟩), .int .i64 (k : Int), v10, u11, u12, u13, u14, u15, u16, u17, u18, u19, u20, u21, u22, u23, u24, u25, u26, u27, u28, u29, v30, v31, v32, v33, v34, v35, v36, v37, v38, v39, v40, v41, v42, v43, v44, v45, v46, v47, v48, v49, v50, v51, v52, v53, v54, v55, v56, v57, v58, v59, v60, v61, v62, v63, v64, v65, v66, v67, v68, v69, v70, v71, v72, v73, v74, v75, v76, v77, v78, v79, v80, v81, v82, v83, v84, v85, v86, v87, v88, v89, v90, v91, v92, v93, v94, v95, v96, v97, v98, v99, v100, v101, v102, v103, v104, v105, v106, v107, v108, v109, v110, v111, v112, v113, v114, v115, v116, v117, v118, v119, v120, v121, v122, v123, v124, v125, v126, v127, v128, v129, v130, v131, v132, v133, v134, v135, v136, v137, v138, v139, v140, v141, v142, v143, v144, v145, v146, v147, v148, v149, v150, v151, v152, v153, v154, v155, v156, v157, v158, v159, v160, v161, v162, v163, v164, v165, v166, v167, v168, v169, v170, v171, v172, u173, u174, u175, u176, u177, u178, u179, u180, u181, u182, u183, u184, u185, u186, u187, u188, u189, u190, u191, u192, u193, u194, u195, u196, u197, u198, u199, u200, u201, u202, u203, u204, u205, u206, u207, u208, u209, u210, u211, u212, u213, u214, u215, u216, u217, u218, u219, u220, u221, u222, u223, u224, u225, u226, u227, u228, u229, u230, u231, u232, u233, u234, u235, u236, u237, u238, u239, u240, u241, u242, u243, u244, u245, u246, u247, u248, u249, u250], []⟩ W) :
    Code.wp Yba.prog (piece Yba.f4.body 14) (QE 1 Q0) ⟨#[u0, u1, u2, .pointer (some ⟨base + 1, 0, none⟩), .pointer (some ⟨base + 2, 0, none⟩), .pointer (some ⟨base + 3, 0, none⟩), .pointer (some ⟨base + 4, 0, none⟩), u7, .pointer (some ⟨N, 0, none⟩), .int .i64 (k : Int), u10, u11, u12, u13, u14, u15, u16, u17, u18, u19, u20, u21, u22, u23, u24, u25, u26, u27, u28, u29, u30, u31, u32, u33, u34, u35, u36, u37, u38, u39, u40, u41, u42, u43, u44, u45, u46, u47, u48, u49, u50, u51, u52, u53, u54, u55, u56, u57, u58, u59, u60, u61, u62, u63, u64, u65, u66, u67, u68, u69, u70, u71, u72, u73, u74, u75, u76, u77, u78, u79, u80, u81, u82, u83, u84, u85, u86, u87, u88, u89, u90, u91, u92, u93, u94, u95, u96, u97, u98, u99, u100, u101, u102, u103, u104, u105, u106, u107, u108, u109, u110, u111, u112, u113, u114, u115, u116, u117, u118, u119, u120, u121, u122, u123, u124, u125, u126, u127, u128, u129, u130, u131, u132, u133, u134, u135, u136, u137, u138, u139, u140, u141, u142, u143, u144, u145, u146, u147, u148, u149, u150, u151, u152, u153, u154, u155, u156, u157, u158, u159, u160, u161, u162, u163, u164, u165, u166, u167, u168, u169, u170, u171, u172, u173, u174, u175, u176, u177, u178, u179, u180, u181, u182, u183, u184, u185, u186, u187, u188, u189, u190, u191, u192, u193, u194, u195, u196, u197, u198, u199, u200, u201, u202, u203, u204, u205, u206, u207, u208, u209, u210, u211, u212, u213, u214, u215, u216, u217, u218, u219, u220, u221, u222, u223, u224, u225, u226, u227, u228, u229, u230, u231, u232, u233, u234, u235, u236, u237, u238, u239, u240, u241, u242, u243, u244, u245, u246, u247, u248, u249, u250], []⟩ W1 := by
  have k1 : (0 : Int) ≤ (k : Int) := by omega
  have k2 : (k : Int) < 2 := by omega
  have HX := hide hexit
  clear hexit
  conv => arg 2; whnf
  have hd2 : (0 : Int) < ((mp k).length : Int) := by omega
  have c1 := sb.c1
  obtain ⟨ap, cp, evp⟩ := row_form' (hM1.mpo k hk)
  have m3 := hM1.mpc k hk
  rw [evp] at m3
  go_wp2_with fail
  go_cut [10] from 30 to 172 (fun x W => (∃ j : Nat, j < (mp k).length ∧ x = .int .i64 (j : Int)) ∧ ∃ m, W = W1.drewN m)
  case first =>
    go_quiet (fail)
    go_wp2
    go_meet
    case rel =>
      refine ⟨⟨(pl % ((mp k).length : Int)).toNat, ?_, ?_⟩, _, rfl⟩
      · have := Int.emod_lt_of_pos pl hd2; have := Int.emod_nonneg pl (show ((mp k).length : Int) ≠ 0 by omega); omega
      · have := Int.emod_nonneg pl (show ((mp k).length : Int) ≠ 0 by omega); rw [Int.toNat_of_nonneg this]
  case rest =>
  obtain ⟨⟨j, hj, rfl⟩, m, rfl⟩ := hcut
  have hj' : j < (mx k).length := by rw [hS.len k hk]; exact hj
  obtain ⟨la, v, lb, hl, hv⟩ := hS.find hk hj hj'
  obtain ⟨g, rfl⟩ : ∃ g, ap = some ⟨g, 0, none⟩ := by
    rcases (hM1.mpo k hk).2 with ⟨e, e'⟩ | ⟨g, cap, cur, e, _⟩
    · omega
    · rw [evp] at e; simp only [Value.slice.injEq] at e; exact ⟨g, e.1⟩
  have cg : W1.cell? ⟨g, j, none⟩ = some (.int .i64 (ns v).place) := by
    have h1 := hM1.mpo k hk
    rw [evp] at h1
    rw [h1.cellAt j (by omega), List.getElem?_map, List.getElem?_eq_getElem hj]
    have := congrArg Prod.fst hv
    simp only [Option.map_some]; congr 2; exact this.symm
  have j1 : (0 : Int) ≤ (j : Int) := by omega
  have j2 : (j : Int) < ((mp k).length : Int) := by omega
  have HL := hide hl
  have HV := hide hv
  clear hl hv evp c1 hd2
  go_wp2_with fail
  go_cut [] from 30 to 172 (fun W => St w W base hdr n vp vx mp mx (putAt mp k ((mp k).eraseIdx j)) (putAt mx k ((mx k).eraseIdx j)) N op pl tx nm ex)
  case first =>
    go_region_with (go_at_call 14; refine (mem_remove (hM1.drewN _) hS hk hj hj' HL.out HV.out).mono ?_; rintro e W2 ⟨rfl, hR⟩)
    all_goals
      go_wp2
      go_meet
      case rel => exact st_removed (hM1.drewN _) hS (sb.kept ((Kept.refl (fun _ => False) _).drewN _) (fun e => e) sb.rows) hk hj hj' HL.out HV.out hR
  case rest =>
  clear m3 cg j1 j2 HL HV

  clear hM1 sb
  obtain ⟨ns2, fr2, t2, l2, fl2, hM2, hS2, sb2⟩ := hcut

  obtain ⟨ap, cp, evp⟩ := row_form' (hM2.mpo k hk)
  obtain ⟨g, rfl⟩ : ∃ g, ap = some ⟨g, 0, none⟩ := by
    rcases (hM2.mpo k hk).2 with ⟨e, e'⟩ | ⟨g, cap, cur, e, _⟩
    · omega
    · rw [evp] at e; simp only [Value.slice.injEq] at e; exact ⟨g, e.1⟩
  have m3 := hM2.mpc k hk
  rw [evp] at m3
  have own2 := hM2.mpo k hk
  rw [evp] at own2
  have fz := hM2.frz (base + 3) (by omega) (by omega)
  have hcp : (mp k).length ≤ cp := by
    rcases own2.2 with ⟨e, _⟩ | ⟨_, _, _, e, _, _, h2, _⟩
    · simp at e
    · simp only [Value.slice.injEq] at e; omega
  have hcm : cp ≤ 9223372036854775807 := by
    rcases own2.2 with ⟨e, _⟩ | ⟨_, _, _, e, _, _, _, h2, _⟩
    · simp at e
    · simp only [Value.slice.injEq] at e; simp only [maxLen] at h2; omega
  obtain ⟨i2, hi2, hz0, hz1, hz2⟩ := info_parts info2
  have j1 : (0 : Int) ≤ (j : Int) := by omega
  have j3 : (j : Int) ≤ (cp : Int) := by omega
  have j4 : (j : Int) + 1 ≤ ((mp k).length : Int) := by omega
  have j5 : ((mp k).length : Int) ≤ (cp : Int) := by omega
  have j6 : (0 : Int) ≤ (j : Int) + 1 := by omega
  have jw : IntKind.i64.wrap ((j : Int) + 1) = (j : Int) + 1 := wrap_small _ (by omega) (by omega)
  have HNE : some (base + 3) ≠ some g := by
    have := (own2.lt g rfl).1; simp; omega
  have HE := hide evp
  clear evp
  go_wp2_with fail
  go_cut [] from 30 to 172 (fun W => ∃ vp', St w W base hdr n vp' vx (putAt mp k ((mp k).eraseIdx j)) mx (putAt mp k ((mp k).eraseIdx j)) (putAt mx k ((mx k).eraseIdx j)) N op pl tx nm ex)
  case first =>
    go_region_law ((refine step_delete (by rfl) _ _ _ (by rfl) (base + 5) 2 i2 Yba.underlying57 hi2 hz1 g (mp k).length cp j _ hj (by exact own2) (ints_oneCell _ _) (by rfl) _ _ _ (by rfl) (by rfl) (by rfl) ?_; intro W3 hown hgrow; have m33 := hgrow.cell (a := ⟨base + 3, k, none⟩) (by simp only [World.cell?_drew]; exact m3) HNE; have fz3 := fun o => (frozen_at (hgrow.block (base + 3) (by simp only [World.size_drew]; have := hM2.size; omega) HNE) o).trans (fz o)))
    all_goals
      go_step
      go_step
      go_meet
      case rel => exact st_del_mp hM2 hS2 sb2 hk hj HE.out hown hgrow
  case rest =>
  clear hM2 hS2 sb2 m3 own2 fz hcp hcm hi2 hz0 hz1 hz2 j1 j3 j4 j5 j6 jw HNE HE
  obtain ⟨vp', ns3, fr3, t3, l3, fl3, hM3, hS3, sb3⟩ := hcut

  obtain ⟨ap, cp, evp⟩ := row_form' (hM3.mxo k hk)
  obtain ⟨g, rfl⟩ : ∃ g, ap = some ⟨g, 0, none⟩ := by
    rcases (hM3.mxo k hk).2 with ⟨e, e'⟩ | ⟨g, cap, cur, e, _⟩
    · omega
    · rw [evp] at e; simp only [Value.slice.injEq] at e; exact ⟨g, e.1⟩
  have m3 := hM3.mxc k hk
  rw [evp] at m3
  have own2 := hM3.mxo k hk
  rw [evp] at own2
  have fz := hM3.frz (base + 4) (by omega) (by omega)
  have hcp : (mx k).length ≤ cp := by
    rcases own2.2 with ⟨e, _⟩ | ⟨_, _, _, e, _, _, h2, _⟩
    · simp at e
    · simp only [Value.slice.injEq] at e; omega
  have hcm : cp ≤ 9223372036854775807 := by
    rcases own2.2 with ⟨e, _⟩ | ⟨_, _, _, e, _, _, _, h2, _⟩
    · simp at e
    · simp only [Value.slice.injEq] at e; simp only [maxLen] at h2; omega
  obtain ⟨i2, hi2, hz0, hz1, hz2⟩ := info_parts info4
  have j1 : (0 : Int) ≤ (j : Int) := by omega
  have j3 : (j : Int) ≤ (cp : Int) := by omega
  have j4 : (j : Int) + 1 ≤ ((mx k).length : Int) := by omega
  have j5 : ((mx k).length : Int) ≤ (cp : Int) := by omega
  have j6 : (0 : Int) ≤ (j : Int) + 1 := by omega
  have jw : IntKind.i64.wrap ((j : Int) + 1) = (j : Int) + 1 := wrap_small _ (by omega) (by omega)
  have HNE : some (base + 4) ≠ some g := by
    have := (own2.lt g rfl).1; simp; omega
  have HE := hide evp
  clear evp
  go_wp2_with fail
  go_cut [] from 30 to 172 (fun W => ∃ vx', St w W base hdr n vp' vx' (putAt mp k ((mp k).eraseIdx j)) (putAt mx k ((mx k).eraseIdx j)) (putAt mp k ((mp k).eraseIdx j)) (putAt mx k ((mx k).eraseIdx j)) N op pl tx nm ex)
  case first =>
    go_region_law ((refine step_delete (by rfl) _ _ _ (by rfl) (base + 5) 4 i2 Yba.underlying40 hi2 hz1 g (mx k).length cp j _ hj' (by exact own2) (bools_oneCell _) (by rfl) _ _ _ (by rfl) (by rfl) (by rfl) ?_; intro W3 hown hgrow; have m33 := hgrow.cell (a := ⟨base + 4, k, none⟩) (by simp only [World.cell?_drew]; exact m3) HNE; have fz3 := fun o => (frozen_at (hgrow.block (base + 4) (by simp only [World.size_drew]; have := hM3.size; omega) HNE) o).trans (fz o)))
    all_goals
      go_step
      go_step
      go_meet
      case rel => exact st_del_mx hM3 hS3 sb3 hk hj' HE.out hown hgrow
  case rest =>
  clear hM3 hS3 sb3 m3 own2 fz hcp hcm hi2 hz0 hz1 hz2 j1 j3 j4 j5 j6 jw HNE HE
  obtain ⟨vx', hSt⟩ := hcut
  go_wp2
  refine ⟨rfl, ?_⟩
  apply HX.out
  refine hSt.inv (by omega) ?_
  intro k' hk'
  by_cases e : k' = k
  · subst e; rw [putAt_same, List.length_eraseIdx]; have := hml k' hk'; split <;> omega
  · rw [putAt_other _ _ e]; have := hml k' hk'; omega
end Go.Proofs.Ybulkfhsm.B
