/-
  Plan.at.
-/
import Derived.Test.YbulkfhtaBTime
import Derived.Test.YbulkfhtaBFloat
namespace Go.Proofs.Ybulkfhta.B
open Go.RowKit
attribute [local go_sem ↓] Go.wp_at_zero Go.wp_at_succ

set_option maxRecDepth 100000 in
set_option maxHeartbeats 2000000 in
theorem at_any {W : World} {v0 v1 v4 : Value} {d : Int} {k s : Nat} (h0 : -1073741824 < d) (h1 : d < 1073741824) (hk2 : k < 50) (hs : 0 < s) (hs2 : s ≤ 39) :
    Calls Yba.prog 18 #[.agg #[v0, v1, .int .i64 (s : Int), .int .i64 d, v4], .int .i64 (k : Int)] W fun e w' => e = .returned (.int .i64 ((d * ((k + 1 : Nat) : Int)).tdiv (s : Int))) ∧ Below W.heap.size W w' := by
  obtain ⟨r1, r2, e1, e2, e3⟩ := at_float h0 h1 (show 0 < k + 1 by omega) (by omega) hs hs2
  have hB : Below W.heap.size W (W.alloc (.cells #[v0, v1, .int .i64 (s : Int), .int .i64 d, v4] 33)) := (Below.refl _ W).alloc (Nat.le_refl _) _
  rw [show ((k + 1 : Nat) : Int) = (k : Int) + 1 by omega] at e1 e3 ⊢
  have m1 := fun w => run_float_arith (P := Yba.prog) w .mul 31 .f64 _ _ r1 e1
  have m2 := fun w => run_float_arith (P := Yba.prog) w .quo 31 .f64 _ _ r2 e2
  have m3 := fun w => run_convert_float_int (P := Yba.prog) w 31 30 .f64 .i64 r2 _ (by kernel_rfl) Yba.underlying30 e3
  have k0 : (0 : Int) ≤ (k : Int) := by omega
  have k1 : (k : Int) ≤ 50 := by omega
  generalize (d * ((k : Int) + 1)).tdiv (s : Int) = res at m3 ⊢
  clear e1 e2 e3
  go_enter Yba.func18, Yba.ntmps18
  go_wp2
  go_ret
  exact ⟨by simp, hB⟩
end Go.Proofs.Ybulkfhta.B
