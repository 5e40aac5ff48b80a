/-
  (History).aborted, conflicting.
-/
import Derived.Test.YbulkfhsmAKit
namespace Go.Proofs.Ybulkfhsm.A
open Go.RowKit
attribute [local go_sem ↓] Go.wp_at_zero Go.wp_at_succ

/-- The row of the flags. -/
def Flags (w : World) (d : Dat) (e : Ending) (w' : World) : Prop :=
  ∃ g, e = .returned (.slice (some ⟨g, 0, none⟩) d.nt d.nt) ∧ w.heap.size ≤ g ∧ Blk w' g 4 (rowF (fun t => .bool (d.ab d.N t)) d.nt) ∧ Below w.heap.size w w'

theorem putV_ab (d : Dat) (k : Nat) (hk : d.K k = 4) (n : Nat) : rowF (putV (fun t => .bool (d.ab k t)) (d.T k) (.bool true)) n = rowF (fun t => .bool (d.ab (k + 1) t)) n := by
  refine rowF_congr fun t _ => ?_
  unfold putV
  rw [Dat.ab_succ]
  by_cases e : t = d.T k
  · simp [e, hk]
  · simp [e, hk, show ¬ d.T k = t from fun e' => e e'.symm]

theorem ab_stay (d : Dat) (k : Nat) (hk : d.K k ≠ 4) (n : Nat) : rowF (fun t => .bool (d.ab (k + 1) t)) n = rowF (fun t => .bool (d.ab k t)) n := by
  refine rowF_congr fun t _ => ?_
  rw [Dat.ab_succ]
  simp [hk]

theorem ab_zero (d : Dat) (n : Nat) : rowF (fun t => .bool (d.ab 0 t)) n = rowF (fun _ => .bool false) n := rowF_congr fun t _ => by simp [Dat.ab]

set_option maxRecDepth 100000 in
set_option maxHeartbeats 2000000 in
theorem aborted_any {w : World} {d : Dat} {gh go gt gv ch cv : Nat} (ok : d.Ok) (h : Lies w d gh go gt gv) :
    Calls Yba.prog 21 #[.slice (some ⟨gh, 0, none⟩) d.N ch, d.agg go gt gv cv] w (Flags w d) := by
  have n0 : (0 : Int) ≤ (d.N : Int) := by omega
  have n1 : (d.N : Int) ≤ 4096 := by have := ok.hN; omega
  have t1 : (d.nt : Int) ≤ 4096 := by have := ok.hnt; omega
  obtain ⟨i4, hi, hz0, hz1, hz2⟩ := info_parts info4
  have hnt := ok.hnt
  unfold Dat.agg
  go_enter Yba.func21, Yba.ntmps21
  go_upto_region 1 with (fail)
  obtain ⟨s, es⟩ : ∃ s, s = w.heap.size := ⟨_, rfl⟩
  have b0 := Blk.new w 37 [.slice (some ⟨go, 0, none⟩) d.N d.N, .int .i64 (d.objects : Int), .slice (some ⟨gt, 0, none⟩) d.N d.N, .slice (some ⟨gv, 0, none⟩) d.nt cv]
  have hB0 : Below w.heap.size w (w.alloc (.cells [Value.slice (some ⟨go, 0, none⟩) d.N d.N, .int .i64 (d.objects : Int), .slice (some ⟨gt, 0, none⟩) d.N d.N, .slice (some ⟨gv, 0, none⟩) d.nt cv].toArray 37)) := (Below.refl _ w).alloc (Nat.le_refl _) _
  have h0 := h.below hB0
  generalize (w.alloc (.cells [Value.slice (some ⟨go, 0, none⟩) d.N d.N, .int .i64 (d.objects : Int), .slice (some ⟨gt, 0, none⟩) d.N d.N, .slice (some ⟨gv, 0, none⟩) d.nt cv].toArray 37)) = w0 at b0 hB0 h0 ⊢
  rw [← es] at b0 hB0 ⊢
  have ES := hide es
  have c3 : w0.cell? ⟨s, 3, none⟩ = some (.slice (some ⟨gv, 0, none⟩) d.nt cv) := b0.cell rfl
  clear es
  go_cut [5] from 8 to 30 (fun v W => v = .slice (some ⟨w0.heap.size, 0, none⟩) d.nt d.nt ∧ Blk W w0.heap.size 4 (rowF (fun _ => .bool false) d.nt) ∧ w0.grownBy W none)
  case first =>
    go_wp2_with (at_make; refine wpList_make_full _ rfl _ _ 40 rfl 0 4 i4 _ 1 Yba.underlying40 hi hz0 hz1 .i64 .i64 _ _ d.nt rfl rfl rfl rfl (by rw [hz2]; omega) (by unfold maxLen; omega) (Nat.zero_le _) ?_; intro w1 hown1 hg1)
    go_meet
    case rel => exact ⟨rfl, made_row rfl hown1, hg1⟩
  case rest =>
  clear c3
  obtain ⟨rfl, hb1, hg1⟩ := hcut
  obtain ⟨g, eg⟩ : ∃ g, g = w0.heap.size := ⟨_, rfl⟩
  rw [← eg] at hb1 ⊢
  have hB1 : Below g w0 wc := by rw [eg]; exact Below.grown (Below.refl _ w0) hg1 (Nat.le_refl _) (by simp)
  have EG := hide eg
  have hsg : s < g := by rw [eg]; exact b0.lt
  clear eg hg1 hi hz0 hz1 hz2
  go_upto_block 0 with (fail)
  go_cut [] from 6 to 30 (fun W => Blk W g 4 (rowF (fun t => .bool (d.ab d.N t)) d.nt) ∧ Below g w0 W)
  case first =>
    go_wp2_with fail
    go_loopw [14] (fun x W => ∃ i : Nat, x = .int .i64 (i : Int) ∧ i ≤ d.N ∧ Blk W g 4 (rowF (fun t => .bool (d.ab i t)) d.nt) ∧ Below g w0 W) (fun x _ => d.N - (intOf x).toNat)
    case atStart => exact ⟨0, rfl, by omega, by rw [ab_zero]; exact hb1, hB1⟩
    case round =>
      clear hb1 hB1
      obtain ⟨i, rfl, hi, hb1, hB1⟩ := hrel
      have i0 : (0 : Int) ≤ (i : Int) := by omega
      by_cases hlt : i < d.N
      · have i1 : (i : Int) < (d.N : Int) := by omega
        have hL := h0.below (W' := wr) (by rw [← EG.out]; exact hB1)
        have q0 := hL.ck i hlt
        have q1 := hL.ct i hlt
        have q2 := hL.co i hlt
        have q3 := hL.tx i hlt
        have hT := ok.hT i hlt
        have t0 : (d.T i : Int) < (d.nt : Int) := by omega
        have t00 : (0 : Int) ≤ (d.T i : Int) := by omega
        have c2 : wr.cell? ⟨s, 2, none⟩ = some (.slice (some ⟨gt, 0, none⟩) d.N d.N) := (b0.below hB1 hsg).cell rfl
        have cg := hb1.at hT
        have fg := hb1.frozen
        have lg := hb1.lt
        have ls : s < wr.heap.size := by omega
        have lt : gt < wr.heap.size := World.block_lt_of_cell? _ _ q3
        by_cases hk : d.K i = 4
        · have HK := hide hk
          rw [hk] at q0
          clear hk
          go_wp2
          refine ⟨⟨i + 1, by go_num, by omega, ?_, ?_⟩, by simp [intOf]; omega⟩
          · rw [← putV_ab d i HK.out]; exact (hb1.put _ _).alloc _
          · exact (hB1.setCell (Nat.le_refl _) _).alloc (by simp [World.setCell]; omega) _
        · have hk' : (d.K i == 4) = false := by simpa using hk
          have HK := hide hk
          clear hk
          go_wp2
          refine ⟨⟨i + 1, by go_num, by omega, ?_, ?_⟩, by simp [intOf]; omega⟩
          · rw [ab_stay d i HK.out]; exact hb1.alloc _
          · exact hB1.alloc (by omega) _
      · have i1 : ¬ (i : Int) < (d.N : Int) := by omega
        obtain rfl : i = d.N := by omega
        go_wp2
        go_meet
        case rel => exact ⟨hb1, hB1⟩
  case rest =>
  clear hb1 hB1
  obtain ⟨hb1, hB1⟩ := hcut
  go_wp2
  go_ret
  refine ⟨g, rfl, by rw [← ES.out]; omega, hb1, ?_⟩
  rw [← ES.out]
  exact hB0.trans (hB1.mono (by omega))
end Go.Proofs.Ybulkfhsm.A
