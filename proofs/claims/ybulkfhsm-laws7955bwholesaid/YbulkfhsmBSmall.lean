/-
  'smaller': it hands back one of its two arguments; only draws are made.
-/
import Derived.Test.YbulkfhsmBPool
import Derived.Deep.QuietTactic
import Derived.BigQuiet
namespace Go.Proofs.Ybulkfhsm.B
open Go.RowKit

/-- A number of a node of the pool, or none. -/
def Ref (n : Nat) (x : Int) : Prop := x = -1 ∨ ∃ j : Nat, j < n ∧ x = (j : Int)

def smallerF (ns : Nat → Nd) (a b : Int) : Int := if a = -1 then b else if b = -1 then a else if (ns b.toNat).name < (ns a.toNat).name then b else a

theorem smallerF_ref {ns : Nat → Nd} {n : Nat} {a b : Int} (ha : Ref n a) (hb : Ref n b) : Ref n (smallerF ns a b) := by
  unfold smallerF
  split
  · exact hb
  · split
    · exact ha
    · split
      · exact hb
      · exact ha

theorem smallerF_nat {ns : Nat → Nd} {n a b : Nat} (ha : a < n) (hb : b < n) : ∃ j : Nat, j < n ∧ smallerF ns (a : Int) (b : Int) = (j : Int) := by
  unfold smallerF
  rw [if_neg (by omega), if_neg (by omega)]
  split
  · exact ⟨b, hb, rfl⟩
  · exact ⟨a, ha, rfl⟩

set_option maxHeartbeats 400000 in
theorem smaller_none (w : World) (s : Addr) (b : Int) :
    Calls Yba.prog 31 #[.pointer (some s), .int .i32 (-1), .int .i32 b] w fun e w' => e = .returned (.int .i32 b) ∧ ∃ k, w' = w.drewN k := by
  go_enter Yba.func31, Yba.ntmps31
  go_wp2
  go_quiet (fail)
  go_wp2
  go_ret
  exact ⟨rfl, _, rfl⟩

set_option maxHeartbeats 400000 in
theorem smaller_left (w : World) (s : Addr) (a : Nat) :
    Calls Yba.prog 31 #[.pointer (some s), .int .i32 (a : Int), .int .i32 (-1)] w fun e w' => e = .returned (.int .i32 (a : Int)) ∧ ∃ k, w' = w.drewN k := by
  have h1 : ((a : Int) == -1) = false := by simp
  go_enter Yba.func31, Yba.ntmps31
  go_wp2
  go_quiet (fail)
  go_wp2
  go_ret
  exact ⟨rfl, _, rfl⟩

set_option maxHeartbeats 400000 in
theorem smaller_both (w : World) (s B n cap a b : Nat) (na nb : Int) (ha : a < n) (hb : b < n) (h0 : w.cell? ⟨s, 0, none⟩ = some (.slice (some ⟨B, 0, none⟩) n cap))
    (ca : w.cell? ⟨B, a * 10 + 2, none⟩ = some (.int .i32 na)) (cb : w.cell? ⟨B, b * 10 + 2, none⟩ = some (.int .i32 nb)) :
    Calls Yba.prog 31 #[.pointer (some ⟨s, 0, none⟩), .int .i32 (a : Int), .int .i32 (b : Int)] w fun e w' => e = .returned (.int .i32 (if nb < na then (b : Int) else (a : Int))) ∧ ∃ k, w' = w.drewN k := by
  have h1 : ((a : Int) == -1) = false := by simp
  have h2 : ((b : Int) != -1) = true := by simp
  have g1 : (0 : Int) ≤ (a : Int) := by omega
  have g2 : (a : Int) < (n : Int) := by omega
  have g3 : (0 : Int) ≤ (b : Int) := by omega
  have g4 : (b : Int) < (n : Int) := by omega
  by_cases hlt : nb < na
  · go_enter Yba.func31, Yba.ntmps31
    go_wp2
    go_quiet (fail)
    go_wp2
    go_ret
    exact ⟨by simp, _, rfl⟩
  · have hd : decide (nb < na) = false := by simpa using hlt
    go_enter Yba.func31, Yba.ntmps31
    go_wp2
    go_quiet (fail)
    go_wp2
    go_ret
    exact ⟨by simp, _, rfl⟩

theorem smaller_any {w : World} {base s B n cap : Nat} {ns : Nat → Nd} (hP : Pool w base s (.slice (some ⟨B, 0, none⟩) n cap) n ns) {a b : Int} (ha : Ref n a) (hb : Ref n b) :
    Calls Yba.prog 31 #[.pointer (some ⟨s, 0, none⟩), .int .i32 a, .int .i32 b] w fun e w' => e = .returned (.int .i32 (smallerF ns a b)) ∧ ∃ k, w' = w.drewN k := by
  rcases ha with rfl | ⟨i, hi, rfl⟩
  · exact smaller_none w _ b
  · rcases hb with rfl | ⟨j, hj, rfl⟩
    · have e : smallerF ns (i : Int) (-1) = (i : Int) := by unfold smallerF; rw [if_neg (by omega), if_pos rfl]
      rw [e]
      exact smaller_left w _ i
    · have e : smallerF ns (i : Int) (j : Int) = if (ns j).name < (ns i).name then (j : Int) else (i : Int) := by
        unfold smallerF; rw [if_neg (by omega), if_neg (by omega)]; simp
      rw [e]
      exact smaller_both w s B n cap i j _ _ hi hj hP.hd (hP.cell hi (k := 2) (by omega)) (hP.cell hj (k := 2) (by omega))
end Go.Proofs.Ybulkfhsm.B
