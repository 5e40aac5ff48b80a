/-
  Sort, at a row and at the nil slice.
-/
import Derived.Test.YbulkfhsmCPdq
import Derived.Test.YbulkfhsmCShelf
namespace Go.Proofs.Ybulkfhsm.C
open Go.RowKit
attribute [local go_sem ↓] Go.wp_at_zero Go.wp_at_succ

theorem bitLenAux_le (f x : Nat) : Lib.bitLenAux f x ≤ f := by
  induction f generalizing x with
  | zero => simp [Lib.bitLenAux]
  | succ f ih =>
    simp only [Lib.bitLenAux]
    have := ih (x / 2)
    split <;> omega
theorem bitLen_small (n : Nat) : Lib.bitLen n ≤ 64 := bitLenAux_le 64 n

set_option maxRecDepth 100000 in
set_option maxHeartbeats 1000000 in
theorem sort_any {w : World} {base g n cap : Nat} {d : Nat → Int} (h : Rw w base g n cap d) (hn : n ≤ 16384) :
    Calls Yba.prog 27 #[.slice (some ⟨g, 0, none⟩) n cap] w fun e w' => e = .returned (.tuple #[]) ∧ Srt w base g n cap 0 n d w' := by
  have HC := hide (pdq_any hn (n + 1) w 0 n (Lib.bitLen n) d h (Nat.zero_le _) (Nat.le_refl _) (by omega) (bitLen_small n) (fun h0 => by omega))
  have n1 : (n : Int) ≤ 18446744073709551615 := by omega
  have n0 : (0 : Int) ≤ (n : Int) := by omega
  go_enter Yba.func27, Yba.ntmps27
  go_wp2_with (go_at_call 35; refine (Yba.bits_Len _ _ (by omega) (by omega)).mono ?_; rintro e w' ⟨rfl, rfl⟩)
  refine HC.out.mono ?_
  rintro e w' ⟨rfl, h1⟩
  go_wp2
  go_end0
  exact ⟨rfl, h1⟩

set_option maxRecDepth 100000 in
theorem insertion_nil (w : World) : Calls Yba.prog 38 #[.slice none 0 0, .int .i64 0, .int .i64 0] w fun e w' => e = .returned (.tuple #[]) ∧ w' = w := by
  go_enter Yba.func38, Yba.ntmps38
  go_wp2
  go_loopw [6] (fun x W => x = .int .i64 1 ∧ W = w) (fun _ _ => 0)
  case atStart => exact ⟨rfl, rfl⟩
  case round =>
    obtain ⟨rfl, rfl⟩ := hrel
    go_wp2
    go_end0
    exact ⟨rfl, rfl⟩

set_option maxRecDepth 100000 in
set_option maxHeartbeats 1000000 in
theorem pdq_nil (w : World) : Calls Yba.prog 34 #[.slice none 0 0, .int .i64 0, .int .i64 0, .int .i64 0] w fun e w' => e = .returned (.tuple #[]) ∧ w' = w := by
  go_enter Yba.func34, Yba.ntmps34
  go_wp2_with fail
  go_loopw [1, 2, 3, 8, 9] (fun xa xb xl x8 x9 W => xa = .int .i64 0 ∧ xb = .int .i64 0 ∧ xl = .int .i64 0 ∧ x8 = .bool true ∧ x9 = .bool true ∧ W = w) (fun _ _ _ _ _ _ => 0)
  case atStart => exact ⟨rfl, rfl, rfl, rfl, rfl, rfl⟩
  case round =>
    obtain ⟨rfl, rfl, rfl, rfl, rfl, rfl⟩ := hrel
    go_wp2_with fail
    refine (insertion_nil _).mono ?_
    rintro e' W2 ⟨rfl, rfl⟩
    go_wp2
    refine bodyPost_ret (results_none rfl _ _ _) rfl ?_
    exact ⟨rfl, rfl⟩

set_option maxRecDepth 100000 in
set_option maxHeartbeats 1000000 in
theorem sort_nil (w : World) : Calls Yba.prog 27 #[.slice none 0 0] w fun e w' => e = .returned (.tuple #[]) ∧ w' = w := by
  go_enter Yba.func27, Yba.ntmps27
  go_wp2_with (go_at_call 35; refine (Yba.bits_Len _ _ (by omega) (by omega)).mono ?_; rintro e w' ⟨rfl, rfl⟩)
  refine (pdq_nil _).mono ?_
  rintro e w' ⟨rfl, rfl⟩
  go_wp2
  go_end0
  exact ⟨rfl, rfl⟩
end Go.Proofs.Ybulkfhsm.C
