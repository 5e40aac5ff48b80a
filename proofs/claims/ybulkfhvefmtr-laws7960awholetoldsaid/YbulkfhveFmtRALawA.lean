/-
  The walk of the law A: the tail.
-/
import Derived.Test.YbulkfhveFmtRALawB
namespace Go.Proofs.YbulkfhveFmtR.A
open Go.RowKit
attribute [local go_sem ↓] Go.wp_at_zero Go.wp_at_succ

def tSemi : Tk := ⟨7, { data := #[59] }⟩
def tClose : Tk := ⟨7, { data := #[41] }⟩
def tThen : Tk := ⟨3, { data := #[116, 104, 101, 110] }⟩
def tEof : Tk := ⟨0, { data := #[] }⟩
def tailOf (t : Nat) : List Tk := if t = 1 then [tSemi] else if t = 2 then [tClose] else if t = 3 then [tThen] else if t = 4 then [tPow] else []
theorem tail_length (t : Nat) : (tailOf t).length ≤ 1 := by
  unfold tailOf
  repeat' split
  all_goals simp

set_option maxRecDepth 100000 in
set_option maxHeartbeats 16000000 in
theorem part_23 {w W : World} {t st en : Nat} {L : List Tk} {v : Value} {dep : Int} {sub : Bool} {u0 u1 u2 u3 u4 u5 u8 u9 u10 u11 u12 u13 u14 u15 u16 u17 u20 u21 u24 u25 u26 u27 u28 u29 u30 u31 u32 u33 u34 u35 u36 u37 u38 u39 u40 u41 u42 u43 u44 u45 u46 u47 u48 u49 u50 u51 u52 u53 u54 u55 u56 u57 u58 u59 u60 u61 u62 u63 u64 u65 u66 u67 u68 u69 u70 u71 u72 u73 u74 u75 u76 u77 u78 u79 u80 u81 u82 u83 u84 u85 u86 u87 u88 u89 u90 u91 u92 u93 u94 u95 u96 u97 u98 u99 u100 u101 u102 u103 u104 u105 u106 u107 u108 u109 u110 u111 u112 u113 u114 u115 u116 u117 u118 u119 u120 u121 u122 u123 u124 u125 u126 u127 u128 u129 u130 u131 u132 u133 u134 u135 u136 u137 u138 u139 u140 u141 u142 u143 u144 u145 u146 u147 u148 u149 u150 u151 u152 u153 u154 u155 u156 u157 u158 u159 u160 u161 u162 u163 u164 u165 u166 u167 u168 u169 u170 u171 u172 u173 u174 u175 u176 u177 u178 u179 u180 u181 u182 u183 u184 u185 u186 u187 u188 u189 u190 u191 u192 u193 u194 u195 u196 u197 u198 u199 : Value} (hrow : Row W w.heap.size v L) (hbel : Below w.heap.size w W) (ht : t < 5) (hfac : Fac (L ++ tailOf t ++ [tEof]) st en) (hst : st ≤ L.length) (hl : L.length ≤ 900000) :
    Code.wp Ybaf.prog (piece Ybaf.f3.body 23) (bodyPost Ybaf.prog Ybaf.f3 (Yes w)) ⟨#[u0, u1, u2, u3, u4, u5, .int .i64 dep, .bool sub, u8, u9, u10, u11, u12, u13, u14, u15, u16, u17, .int .i64 (t : Int), v, u20, u21, .int .i64 (st : Int), .int .i64 (en : Int), u24, u25, u26, u27, u28, u29, u30, u31, u32, u33, u34, u35, u36, u37, u38, u39, u40, u41, u42, u43, u44, u45, u46, u47, u48, u49, u50, u51, u52, u53, u54, u55, u56, u57, u58, u59, u60, u61, u62, u63, u64, u65, u66, u67, u68, u69, u70, u71, u72, u73, u74, u75, u76, u77, u78, u79, u80, u81, u82, u83, u84, u85, u86, u87, u88, u89, u90, u91, u92, u93, u94, u95, u96, u97, u98, u99, u100, u101, u102, u103, u104, u105, u106, u107, u108, u109, u110, u111, u112, u113, u114, u115, u116, u117, u118, u119, u120, u121, u122, u123, u124, u125, u126, u127, u128, u129, u130, u131, u132, u133, u134, u135, u136, u137, u138, u139, u140, u141, u142, u143, u144, u145, u146, u147, u148, u149, u150, u151, u152, u153, u154, u155, u156, u157, u158, u159, u160, u161, u162, u163, u164, u165, u166, u167, u168, u169, u170, u171, u172, u173, u174, u175, u176, u177, u178, u179, u180, u181, u182, u183, u184, u185, u186, u187, u188, u189, u190, u191, u192, u193, u194, u195, u196, u197, u198, u199], []⟩ W := by
  conv => arg 2; whnf; dsimp only
  go_upto_block 2 with (fail)
  go_cut [19, 18, 96] from 97 to 120 (fun v' _ _ W' => Row W' w.heap.size v' (L ++ tailOf t) ∧ Below w.heap.size w W')
  case first =>
    rcases (show t = 0 ∨ t = 1 ∨ t = 2 ∨ t = 3 ∨ t = 4 by omega) with e | e | e | e | e
    all_goals
      have HT := hide e
    · have e' : (t : Int) = 0 := by omega
      clear e
      go_wp2
      go_meet
      case rel => exact ⟨by rw [HT.out]; simpa [tailOf] using hrow, hbel⟩
    · have e' : (t : Int) = 1 := by omega
      clear e
      go_wp2_with fail
      refine (tok_any tSemi.k tSemi.t).mono ?_
      rintro e w2 ⟨rfl, hb2⟩
      have hr2 := put_row hrow hb2
      have bel2 : Below w.heap.size w w2 := hbel.trans (hb2.mono hbel.size)
      have hB2 : w.heap.size ≤ w2.heap.size := bel2.size
      go_wp2_with (at_builtin; refine app (v := v) rfl _ _ rfl rfl (hr2.alloc _) [tSemi] _ _ rfl (lies_new _ _ [tSemi]) (by simp; omega) (by simp; exact Nat.le_succ_of_le hB2) ?_; intro v3 w3 hr3 hg3)
      have bel3 : Below w.heap.size w w3 := (bel2.alloc hB2 _).grown hg3 (by simp; exact Nat.le_succ_of_le hB2) (fun k e => (hr2.lt k e).1)
      go_meet
      case rel => exact ⟨by rw [HT.out]; exact hr3, bel3⟩
    · have e' : (t : Int) = 2 := by omega
      clear e
      go_wp2_with fail
      refine (tok_any tClose.k tClose.t).mono ?_
      rintro e w2 ⟨rfl, hb2⟩
      have hr2 := put_row hrow hb2
      have bel2 : Below w.heap.size w w2 := hbel.trans (hb2.mono hbel.size)
      have hB2 : w.heap.size ≤ w2.heap.size := bel2.size
      go_wp2_with (at_builtin; refine app (v := v) rfl _ _ rfl rfl (hr2.alloc _) [tClose] _ _ rfl (lies_new _ _ [tClose]) (by simp; omega) (by simp; exact Nat.le_succ_of_le hB2) ?_; intro v3 w3 hr3 hg3)
      have bel3 : Below w.heap.size w w3 := (bel2.alloc hB2 _).grown hg3 (by simp; exact Nat.le_succ_of_le hB2) (fun k e => (hr2.lt k e).1)
      go_meet
      case rel => exact ⟨by rw [HT.out]; exact hr3, bel3⟩
    · have e' : (t : Int) = 3 := by omega
      clear e
      go_wp2_with fail
      refine (tok_any tThen.k tThen.t).mono ?_
      rintro e w2 ⟨rfl, hb2⟩
      have hr2 := put_row hrow hb2
      have bel2 : Below w.heap.size w w2 := hbel.trans (hb2.mono hbel.size)
      have hB2 : w.heap.size ≤ w2.heap.size := bel2.size
      go_wp2_with (at_builtin; refine app (v := v) rfl _ _ rfl rfl (hr2.alloc _) [tThen] _ _ rfl (lies_new _ _ [tThen]) (by simp; omega) (by simp; exact Nat.le_succ_of_le hB2) ?_; intro v3 w3 hr3 hg3)
      have bel3 : Below w.heap.size w w3 := (bel2.alloc hB2 _).grown hg3 (by simp; exact Nat.le_succ_of_le hB2) (fun k e => (hr2.lt k e).1)
      go_meet
      case rel => exact ⟨by rw [HT.out]; exact hr3, bel3⟩
    · have e' : (t : Int) = 4 := by omega
      clear e
      go_wp2_with fail
      refine (tok_any tPow.k tPow.t).mono ?_
      rintro e w2 ⟨rfl, hb2⟩
      have hr2 := put_row hrow hb2
      have bel2 : Below w.heap.size w w2 := hbel.trans (hb2.mono hbel.size)
      have hB2 : w.heap.size ≤ w2.heap.size := bel2.size
      go_wp2_with (at_builtin; refine app (v := v) rfl _ _ rfl rfl (hr2.alloc _) [tPow] _ _ rfl (lies_new _ _ [tPow]) (by simp; omega) (by simp; exact Nat.le_succ_of_le hB2) ?_; intro v3 w3 hr3 hg3)
      have bel3 : Below w.heap.size w w3 := (bel2.alloc hB2 _).grown hg3 (by simp; exact Nat.le_succ_of_le hB2) (fun k e => (hr2.lt k e).1)
      go_meet
      case rel => exact ⟨by rw [HT.out]; exact hr3, bel3⟩
  case rest =>
  obtain ⟨hr4, bel4⟩ := hcut
  have hr5 := hr4
  clear hrow hbel
  rename_i hK
  refine hK _ _ ?_
  clear hK
  have htl := tail_length t
  obtain ⟨M, eM⟩ : ∃ M, M = L ++ tailOf t := ⟨_, rfl⟩
  rw [← eM] at hr4 hr5 hfac
  have hM : M.length ≤ 900001 := by rw [eM, List.length_append]; omega
  have hM2 : st ≤ M.length := by rw [eM, List.length_append]; omega
  clear eM
  go_upto_region 32 with (fail)
  go_cut [19] from 121 to 124 (fun v' W' => Row W' w.heap.size v' (M ++ [tEof]) ∧ Below w.heap.size w W')
  case first =>
    go_wp2_with fail
    refine (tok_any tEof.k tEof.t).mono ?_
    rintro e w2 ⟨rfl, hb2⟩
    have hr2 := put_row hr4 hb2
    have bel2 : Below w.heap.size w w2 := bel4.trans (hb2.mono bel4.size)
    have hB2 : w.heap.size ≤ w2.heap.size := bel2.size
    go_wp2_with (at_builtin; refine app (v := u19) rfl _ _ rfl rfl (hr2.alloc _) [tEof] _ _ rfl (lies_new _ _ [tEof]) (by simp; omega) (by simp; exact Nat.le_succ_of_le hB2) ?_; intro v3 w3 hr3 hg3)
    go_meet
    case rel => exact ⟨hr3, (bel2.alloc hB2 _).grown hg3 (by simp; exact Nat.le_succ_of_le hB2) (fun k e => (hr2.lt k e).1)⟩
  case rest =>
  obtain ⟨hr6, bel6⟩ := hcut
  rename_i hK
  obtain ⟨tb, cap, e6⟩ : ∃ tb cap, u19 = .slice (some ⟨tb, 0, none⟩) (M ++ [tEof]).length cap := by
    rcases hr6.2 with ⟨_, e⟩ | ⟨g, cap, cur, e, _⟩
    · simp at e
    · exact ⟨g, cap, e⟩
  subst e6
  exact hK _ _ (part_33 hr6 bel6 hfac (by simp; omega) (by simp; omega))
end Go.Proofs.YbulkfhveFmtR.A
