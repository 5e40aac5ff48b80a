/-
  The walk of the law B: its head.
-/
import Derived.Test.YbulkfhtaBLawA
namespace Go.Proofs.Ybulkfhta.B
open Go.RowKit
attribute [local go_sem ↓] Go.wp_at_zero Go.wp_at_succ

theorem inp_new {W : World} {L nS k : Nat} {d sf : Int} {lv : Bool} {v0 v1 v4 v5 v6 v7 v8 v9 v17 v18 : Value} (h : Blk W L 49 [v0, v1, .int .i64 (nS : Int), .int .i64 d, v4, v5, v6, v7, v8, v9, .slice none 0 0, .slice none 0 0, .int .u64 (sf % 1000000000), .int .i64 (sf / 1000000000), .pointer none, .int .i64 (k : Int), .bool lv, v17, v18]) :
    Inp W L ⟨0, .slice none 0 0, fun _ => 0, fun _ => 0, k, nS, d, sf, lv, .slice none 0 0, 0, fun _ => 0, v0, v1, v4⟩ :=
  ⟨⟨h.cell rfl, h.frozen 10, World.ownsRow_nil _ _ _ _, fun i hi => absurd hi (Nat.not_lt_zero i), fun i hi => absurd hi (Nat.not_lt_zero i)⟩, h.cell rfl, h.cell rfl, h.cell rfl, h.cell rfl, h.cell rfl, h.cell rfl, h.cell rfl, h.cell rfl, h.cell rfl, h.cell rfl, h.cell rfl, World.ownsRow_nil _ _ _ _⟩

set_option maxRecDepth 100000 in
set_option maxHeartbeats 16000000 in
theorem law_walk {w : World} {a0 a5 : Option Addr} {n m q0 q5 : Nat} {a1 a2 a3 a4 : Int} {lv : Bool} {xs ys : Nat → Int} (g0 : Given w a0 n xs) (g5 : Given w a5 m ys) (rn : n * 8 ≤ 140737488351232) (rm : m * 8 ≤ 140737488351232) (wx : ∀ i, i < n → wf64 (xs i)) (wy : ∀ i, i < m → wf64 (ys i)) (w1 : wf64 a1) (w2 : 0 ≤ a2 ∧ a2 ≤ 255) (w3 : 0 ≤ a3 ∧ a3 ≤ 255) (w4 : wf64 a4) :
    Calls Yba.prog 4 #[.slice a0 n q0, .int .i64 a1, .int .u8 a2, .int .u8 a3, .int .i64 a4, .slice a5 m q5, .bool lv] w (Yes w) := by
  have n0 : (0 : Int) ≤ (n : Int) := by omega
  have m0 : (0 : Int) ≤ (m : Int) := by omega
  have hn1 : (n : Int) ≤ 17592186043904 := by omega
  have hm1 : (m : Int) ≤ 17592186043904 := by omega
  have HWX := hide wx
  have HWY := hide wy
  have HG0 := hide g0
  have HG5 := hide g5
  clear wx wy g0 g5 rn rm
  obtain ⟨s, es⟩ : ∃ s : Int, (n : Int) + (m : Int) = s := ⟨_, rfl⟩
  have hs0 : 0 ≤ s := by omega
  have hs1 : s ≤ 35184372087808 := by omega
  by_cases hb : 65536 < s
  · go_enter Yba.func4, Yba.ntmps4
    go_wp2
    go_ret
    exact ⟨rfl, Below.refl _ _⟩
  have hs2 : s ≤ 65536 := by omega
  have hsum : n + m ≤ 65536 := by omega
  obtain ⟨sf, esf⟩ : ∃ sf : Int, a1.tmod 4611686018427387904 = sf := ⟨_, rfl⟩
  obtain ⟨d, ed⟩ : ∃ d : Int, a4.tmod 1073741824 = d := ⟨_, rfl⟩
  have hsf : -4611686018427387904 < sf ∧ sf < 4611686018427387904 := by
    rw [← esf]
    have h1 := Int.tmod_lt_of_pos a1 (show (0 : Int) < 4611686018427387904 by omega)
    have h2 := Int.lt_tmod_of_pos a1 (show (0 : Int) < 4611686018427387904 by omega)
    omega
  have hd : -1073741824 < d ∧ d < 1073741824 := by
    rw [← ed]
    have h1 := Int.tmod_lt_of_pos a4 (show (0 : Int) < 1073741824 by omega)
    have h2 := Int.lt_tmod_of_pos a4 (show (0 : Int) < 1073741824 by omega)
    omega
  obtain ⟨nS, eS⟩ : ∃ nS : Nat, a3 % 40 = (nS : Int) := ⟨(a3 % 40).toNat, by omega⟩
  obtain ⟨k, ek⟩ : ∃ k : Nat, a2 % 42 = (k : Int) := ⟨(a2 % 42).toNat, by omega⟩
  have hnS : nS < 40 := by omega
  have hk : k < 42 := by omega
  have w10 := w1.1
  have w11 := w1.2
  have w40 := w4.1
  have w41 := w4.2
  go_enter Yba.func4, Yba.ntmps4
  go_upto_region 7 with (fail)
  clear eS ek esf ed es
  have hbat := bat_any (n := sf) (W := w) (by omega) (by omega)
  unfold tv at hbat
  have HBT := hide hbat
  clear hbat
  go_cut [19] from 53 to 61 (fun p W' => ∃ (L : Nat) (v0 v1 v4 : Value), p = .pointer (some ⟨L, 0, none⟩) ∧ Inp W' L ⟨0, .slice none 0 0, fun _ => 0, fun _ => 0, k, nS, d, sf, lv, .slice none 0 0, 0, fun _ => 0, v0, v1, v4⟩ ∧ Below w.heap.size w W' ∧ w.heap.size ≤ L ∧ W'.frozen? ⟨L, 11, none⟩ = false)
  case first =>
    go_wp2_with fail
    refine HBT.out.mono ?_
    rintro e w1 ⟨rfl, hb1⟩
    go_wp2
    go_meet
    case rel =>
      have hB := Blk.new w1 49 [.int .i64 0, .float .f64 0, .int .i64 (nS : Int), .int .i64 d, .int .i64 0, .int .i64 0, .nilIface, .slice none 0 0, .pointer none, .slice none 0 0, .slice none 0 0, .slice none 0 0, .int .u64 (sf % 1000000000), .int .i64 (sf / 1000000000), .pointer none, .int .i64 (k : Int), .bool lv, .int .u64 0, .int .i64 0]
      exact ⟨w1.heap.size, _, _, _, rfl, inp_new hB, hb1.alloc hb1.size _, hb1.size, hB.frozen 11⟩
  case rest =>
  obtain ⟨L, v0, v1, v4, rfl, hinp, bel, hwL, hfz⟩ := hcut
  rename_i hK
  exact hK _ _ (part_8 hinp rfl rfl rfl hsum hk hnS hd hsf HWX.out HWY.out HG0.out HG5.out bel hwL hfz)
end Go.Proofs.Ybulkfhta.B
