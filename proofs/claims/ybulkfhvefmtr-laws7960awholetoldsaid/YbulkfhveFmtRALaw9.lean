/-
  The walk of the law A: which tail.
-/
import Derived.Test.YbulkfhveFmtRALawA
namespace Go.Proofs.YbulkfhveFmtR.A
open Go.RowKit
attribute [local go_sem ↓] Go.wp_at_zero Go.wp_at_succ

set_option maxRecDepth 100000 in
set_option maxHeartbeats 16000000 in
theorem part_20 {w W : World} {m t st : Nat} {pow : Bool} {L : List Tk} {v : Value} {dep : Int} {sub : Bool} {u0 u1 u2 u4 u5 u8 u9 u10 u11 u12 u13 u14 u15 u16 u20 u21 u23 u24 u25 u26 u27 u28 u29 u30 u31 u32 u33 u34 u35 u36 u37 u38 u39 u40 u41 u42 u43 u44 u45 u46 u47 u48 u49 u50 u51 u52 u53 u54 u55 u56 u57 u58 u59 u60 u61 u62 u63 u64 u65 u66 u67 u68 u69 u70 u71 u72 u73 u74 u75 u76 u77 u78 u79 u80 u81 u82 u83 u84 u85 u86 u87 u88 u89 u90 u91 u92 u93 u94 u95 u96 u97 u98 u99 u100 u101 u102 u103 u104 u105 u106 u107 u108 u109 u110 u111 u112 u113 u114 u115 u116 u117 u118 u119 u120 u121 u122 u123 u124 u125 u126 u127 u128 u129 u130 u131 u132 u133 u134 u135 u136 u137 u138 u139 u140 u141 u142 u143 u144 u145 u146 u147 u148 u149 u150 u151 u152 u153 u154 u155 u156 u157 u158 u159 u160 u161 u162 u163 u164 u165 u166 u167 u168 u169 u170 u171 u172 u173 u174 u175 u176 u177 u178 u179 u180 u181 u182 u183 u184 u185 u186 u187 u188 u189 u190 u191 u192 u193 u194 u195 u196 u197 u198 u199 : Value} (hrow : Row W w.heap.size v L) (hbel : Below w.heap.size w W) (ht : t < 5)
    (hfac : ∀ t', t' < 5 → (t' = 4 → ¬ (m = 0 ∧ pow = false)) → Fac (L ++ tailOf t' ++ [tEof]) st L.length) (hst : st ≤ L.length) (hl : L.length ≤ 900000) :
    Code.wp Ybaf.prog (piece Ybaf.f3.body 20) (bodyPost Ybaf.prog Ybaf.f3 (Yes w)) ⟨#[u0, u1, u2, .bool pow, u4, u5, .int .i64 dep, .bool sub, u8, u9, u10, u11, u12, u13, u14, u15, u16, .int .i64 (m : Int), .int .i64 (t : Int), v, u20, u21, .int .i64 (st : Int), u23, u24, u25, u26, u27, u28, u29, u30, u31, u32, u33, u34, u35, u36, u37, u38, u39, u40, u41, u42, u43, u44, u45, u46, u47, u48, u49, u50, u51, u52, u53, u54, u55, u56, u57, u58, u59, u60, u61, u62, u63, u64, u65, u66, u67, u68, u69, u70, u71, u72, u73, u74, u75, u76, u77, u78, u79, u80, u81, u82, u83, u84, u85, u86, u87, u88, u89, u90, u91, u92, u93, u94, u95, u96, u97, u98, u99, u100, u101, u102, u103, u104, u105, u106, u107, u108, u109, u110, u111, u112, u113, u114, u115, u116, u117, u118, u119, u120, u121, u122, u123, u124, u125, u126, u127, u128, u129, u130, u131, u132, u133, u134, u135, u136, u137, u138, u139, u140, u141, u142, u143, u144, u145, u146, u147, u148, u149, u150, u151, u152, u153, u154, u155, u156, u157, u158, u159, u160, u161, u162, u163, u164, u165, u166, u167, u168, u169, u170, u171, u172, u173, u174, u175, u176, u177, u178, u179, u180, u181, u182, u183, u184, u185, u186, u187, u188, u189, u190, u191, u192, u193, u194, u195, u196, u197, u198, u199], []⟩ W := by
  conv => arg 2; whnf; dsimp only
  obtain ⟨va, vc, rfl⟩ := hrow.form
  have HF := hide hfac
  clear hfac
  go_upto_region 21 with (fail)
  obtain ⟨c, ec⟩ : ∃ c, c = (decide (t = 4) && decide (m = 0) && !pow) := ⟨_, rfl⟩
  have EC := hide ec
  clear ec
  go_cut [95, 17, 18, 86] from 87 to 95 (fun b x y _ W' => b = .bool c ∧ x = .int .i64 (m : Int) ∧ y = .int .i64 (t : Int) ∧ W' = W)
  case first =>
    by_cases h4 : t = 4
    · have h4' : (t : Int) = 4 := by omega
      by_cases h0 : m = 0
      · have h0' : (m : Int) = 0 := by omega
        cases pow with
        | true =>
          have EC2 := hide (show c = false by rw [EC.out]; simp)
          clear h4 h0
          go_wp2
          go_meet
          case rel => exact ⟨by rw [EC2.out], by first | rfl | rw [h0'], by first | rfl | rw [h4'], rfl⟩
        | false =>
          have EC2 := hide (show c = true by rw [EC.out]; simp [h4, h0])
          clear h4 h0
          go_wp2
          go_meet
          case rel => exact ⟨by rw [EC2.out], by first | rfl | rw [h0'], by first | rfl | rw [h4'], rfl⟩
      · have h0' : ¬ (m : Int) = 0 := by omega
        have EC2 := hide (show c = false by rw [EC.out]; simp [h0])
        clear h4
        go_wp2
        go_meet
        case rel => exact ⟨by rw [EC2.out], rfl, by first | rfl | rw [h4'], rfl⟩
    · have h4' : ¬ (t : Int) = 4 := by omega
      have EC2 := hide (show c = false by rw [EC.out]; simp [h4])
      go_wp2
      go_meet
      case rel => exact ⟨by rw [EC2.out], rfl, rfl, rfl⟩
  case rest =>
  obtain ⟨rfl, rfl, rfl, ew⟩ := hcut
  obtain rfl := ew.symm
  clear ew
  go_upto_if 95 with (fail)
  go_cut [18, 95] from 95 to 95 (fun y _ W' => y = .int .i64 ((if c = true then 1 else t : Nat) : Int) ∧ W' = W)
  case first =>
    cases c with
    | true =>
      go_wp2
      go_meet
      case rel => exact ⟨rfl, rfl⟩
    | false =>
      go_wp2
      go_meet
      case rel => exact ⟨rfl, rfl⟩
  case rest =>
  obtain ⟨rfl, ew⟩ := hcut
  obtain rfl := ew.symm
  clear ew
  rename_i hK
  refine hK _ _ (part_23 hrow hbel (t := if c = true then 1 else t) (by split <;> omega) (HF.out _ (by split <;> omega) fun h4 => ?_) hst hl)
  cases hc : c with
  | true => rw [hc] at h4; simp at h4
  | false =>
    rw [hc] at h4
    simp only [Bool.false_eq_true, if_false] at h4
    have := EC.out
    rw [hc, h4] at this
    rintro ⟨e1, e2⟩
    rw [e1, e2] at this
    simp at this
end Go.Proofs.YbulkfhveFmtR.A
