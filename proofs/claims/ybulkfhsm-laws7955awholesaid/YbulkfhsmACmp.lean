/-
  conflicting, cmp.Compare, the closure of nodes.
-/
import Derived.Test.YbulkfhsmAKit
namespace Go.Proofs.Ybulkfhsm.A
open Go.RowKit
attribute [local go_sem ↓] Go.wp_at_zero Go.wp_at_succ

set_option maxRecDepth 100000 in
set_option maxHeartbeats 1000000 in
theorem conflicting_any (k : Int) (w : World) : Calls Yba.prog 22 #[.int .u8 k, .int .u8 2] w fun e w' => e = .returned (.bool (decide (k = 1 ∨ k = 2))) ∧ w' = w := by
  by_cases h1 : k = 1
  · subst h1
    go_enter Yba.func22, Yba.ntmps22
    go_wp2
    go_ret
    exact ⟨by simp, rfl⟩
  · have h1' : (k == 1) = false := by simpa using h1
    by_cases h2 : k = 2
    · subst h2
      go_enter Yba.func22, Yba.ntmps22
      go_wp2
      go_ret
      exact ⟨by simp, rfl⟩
    · have h2' : (k == 2) = false := by simpa using h2
      have hd : decide (k = 1 ∨ k = 2) = false := by simp [h1, h2]
      rw [hd]
      clear hd h1 h2
      go_enter Yba.func22, Yba.ntmps22
      go_wp2
      go_ret
      exact ⟨by simp, rfl⟩

theorem nan_any (x : Int) (w : World) : Calls Yba.prog 37 #[.int .i32 x] w fun e w' => e = .returned (.bool false) ∧ w' = w := by
  go_enter Yba.func37, Yba.ntmps37
  go_wp2
  go_ret
  exact ⟨by simp, rfl⟩

/-- What cmp.Compare answers. -/
def cmp3 (x y : Int) : Int := if x < y then -1 else if y < x then 1 else 0

set_option maxHeartbeats 1000000 in
theorem compare_any (x y : Int) (w : World) : Calls Yba.prog 30 #[.int .i32 x, .int .i32 y] w fun e w' => e = .returned (.int .i64 (cmp3 x y)) ∧ w' = w := by
  unfold cmp3
  by_cases h1 : x < y
  · rw [if_pos h1]
    go_enter Yba.func30, Yba.ntmps30
    go_wp2_with (go_at_call 37; refine (nan_any _ _).mono ?_; rintro e w' ⟨rfl, rfl⟩)
    go_ret
    exact ⟨by simp, rfl⟩
  · rw [if_neg h1]
    by_cases h2 : y < x
    · rw [if_pos h2]
      go_enter Yba.func30, Yba.ntmps30
      go_wp2_with (go_at_call 37; refine (nan_any _ _).mono ?_; rintro e w' ⟨rfl, rfl⟩)
      go_ret
      exact ⟨by simp, rfl⟩
    · rw [if_neg h2]
      go_enter Yba.func30, Yba.ntmps30
      go_wp2_with (go_at_call 37; refine (nan_any _ _).mono ?_; rintro e w' ⟨rfl, rfl⟩)
      go_ret
      exact ⟨by simp, rfl⟩

set_option maxRecDepth 100000 in
set_option maxHeartbeats 1000000 in
theorem closure_any {W : World} {s gv nt cv x y : Nat} {vx vy : Int} (c3 : W.cell? ⟨s, 3, none⟩ = some (.slice (some ⟨gv, 0, none⟩) nt cv)) (hx : x < nt) (hy : y < nt) (cx : W.cell? ⟨gv, x, none⟩ = some (.int .i32 vx)) (cy : W.cell? ⟨gv, y, none⟩ = some (.int .i32 vy)) :
    Calls Yba.prog 29 #[.int .i32 (x : Int), .int .i32 (y : Int), .pointer (some ⟨s, 0, none⟩)] W fun e w' => e = .returned (.int .i64 (cmp3 vx vy)) ∧ ∃ q, w' = W.drewN q := by
  have x0 : (0 : Int) ≤ (x : Int) := by omega
  have y0 : (0 : Int) ≤ (y : Int) := by omega
  have x1 : (x : Int) < (nt : Int) := by omega
  have y1 : (y : Int) < (nt : Int) := by omega
  go_enter Yba.func29, Yba.ntmps29
  go_upto_region 1 with (fail)
  go_quiet ((go_at_call 30; exact Calls.quiet_of_same (compare_any _ _ _)))
  go_wp2
  go_ret
  exact ⟨rfl, _, rfl⟩
end Go.Proofs.Ybulkfhsm.A
