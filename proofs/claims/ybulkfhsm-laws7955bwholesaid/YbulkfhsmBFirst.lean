/-
  firstExclusive; slices.Clone and slices.Equal at the pool.
-/
import Derived.Test.YbulkfhsmBInsert
import Derived.Lib.SliceRun
namespace Go.Proofs.Ybulkfhsm.B
open Go.RowKit
attribute [local go_sem ↓] Go.wp_at_zero Go.wp_at_succ

/-- The place of the foremost exclusive wait, or -1. -/
def feP (ns : Nat → Nd) (l : List Nat) : Int := if firstEx ns l = -1 then -1 else (ns (firstEx ns l).toNat).place

set_option maxRecDepth 100000 in
set_option maxHeartbeats 1000000 in
theorem first_any {w : World} {base s n : Nat} {hdr : Value} {ns : Nat → Nd} {f : Nat} {t : Int} {l : List Nat} (hP : Pool w base s hdr n ns) (hT : T n ns f t l) :
    Calls Yba.prog 17 #[.pointer (some ⟨s, 0, none⟩), .int .i32 t] w fun e w' => e = .returned (.int .i64 (feP ns l)) ∧ ∃ k, w' = w.drewN k := by
  have hf := hT.fex
  have hlt := hT.lt
  unfold feP
  rcases hT.ref with rfl | ⟨i, hi, rfl⟩
  · rw [if_neg (by simp)] at hf
    rw [← hf, if_pos rfl]
    clear hf hlt
    go_enter Yba.func17, Yba.ntmps17
    go_wp2
    go_ret
    exact ⟨rfl, 0, rfl⟩
  · rw [if_pos (by omega)] at hf
    simp only [Int.toNat_natCast] at hf
    obtain ⟨B, cap, rfl, hb, hBs, hc, hm⟩ := hP.form (by omega)
    have h0 := hP.hd
    have hne : ((i : Int) == -1) = false := by simp
    have g1 : (0 : Int) ≤ (i : Int) := by omega
    have g2 : (i : Int) < (n : Int) := by omega
    have c9 : w.cell? ⟨B, i * 10 + 9, none⟩ = some (.int .i32 (ns i).fex) := hP.cell hi (k := 9) (by omega)
    rw [hf] at c9
    rcases firstEx_some (ns := ns) (l := l) with ⟨h1, h2⟩ | ⟨l1, j, l2, h1, h2, h3, h4⟩
    · rw [h1] at c9 ⊢
      rw [if_pos rfl]
      clear hf hlt h1 h2
      go_enter Yba.func17, Yba.ntmps17
      go_wp2
      go_ret
      exact ⟨rfl, 0, rfl⟩
    · rw [h2] at c9 ⊢
      rw [if_neg (by omega)]
      simp only [Int.toNat_natCast]
      have hj : j < n := hlt j (by rw [h1]; simp)
      have c0 : w.cell? ⟨B, j * 10, none⟩ = some (.int .i64 (ns j).place) := hP.cell hj (k := 0) (by omega)
      have hne' : ((j : Int) == -1) = false := by simp
      have g3 : (0 : Int) ≤ (j : Int) := by omega
      have g4 : (j : Int) < (n : Int) := by omega
      clear hf hlt h1 h2 h3 h4
      go_enter Yba.func17, Yba.ntmps17
      go_wp2
      go_quiet (fail)
      go_wp2
      go_ret
      exact ⟨rfl, _, rfl⟩

theorem flat_one (ns : Nat → Nd) (n : Nat) : ∀ u ∈ flat ns n, u.oneCell' = true := by
  induction n with
  | zero => intro u hu; cases hu
  | succ n ih =>
    intro u hu
    simp only [flat, List.mem_append] at hu
    rcases hu with hu | hu
    · exact ih u hu
    · simp only [Nd.cells, List.mem_cons, List.not_mem_nil, or_false] at hu
      rcases hu with rfl | rfl | rfl | rfl | rfl | rfl | rfl | rfl | rfl | rfl <;> rfl

set_option maxRecDepth 100000 in
set_option maxHeartbeats 1000000 in
theorem clone_any {w : World} {base s n : Nat} {hdr : Value} {ns : Nat → Nd} (hP : Pool w base s hdr n ns) (hn : n ≤ 4096) (hbase : base ≤ w.heap.size) :
    Calls Yba.prog 16 #[hdr] w fun e w' => ∃ v, e = .returned v ∧ w'.ownsRow base 69 10 v n (flat ns n) ∧ w.grownBy w' none := by
  have hnil := fun (w : World) (a : Option Addr) (n c : Nat) => Lib.run_eql_slice_nil (P := Yba.prog) w 51 69 a n c 0 0 Yba.underlying51
  rcases hP.own.2 with ⟨rfl, rfl⟩ | ⟨B, cap, cur, rfl, hb, hB, hc, hm, hz, htk⟩
  · go_enter Yba.func16, Yba.ntmps16
    go_wp2
    go_ret
    exact ⟨_, rfl, hP.own, World.grownBy.refl _ _⟩
  · obtain ⟨i, hi, hz0, hz1, hz2⟩ := info_parts info69
    go_enter Yba.func16, Yba.ntmps16
    go_wp2_with (at_builtin; refine wpList_append_own _ rfl _ _ _ rfl base 69 i _ 10 48 Yba.underlying51 hi hz0 hz1 hz2 rfl (by omega) _ 0 [] rfl (World.ownsRow_made w #[] 0 hbase (by omega) (by simp)) ⟨B, 0, none⟩ n cap (flat ns n) rfl (flat_len ns n) ((hP.own.alloc _).cells rfl) (flat_one ns n) (by simp only [maxLen]; omega) (by omega) (by simp; omega) ?_)
    intro v' w' h1 h2 h3
    go_wp2
    go_ret
    refine ⟨_, rfl, ?_, ?_⟩
    · simpa using h1
    · exact ⟨h2.os, h2.tape, h2.output, by have := h2.size; simp at this; omega, fun k hk _ => (h2.block k (by simp; omega) (by simp [Value.ownBlock]; omega)).trans (Below.heap_alloc _ _ _ hk)⟩

theorem row_cell {w : World} {base B n cap : Nat} {ns : Nat → Nd} (h : w.ownsRow base 69 10 (.slice (some ⟨B, 0, none⟩) n cap) n (flat ns n)) {i k : Nat} (hi : i < n) (hk : k < 10) :
    w.cell? ⟨B, i * 10 + k, none⟩ = (ns i).cells[k]? := by
  rw [h.cellAt _ (by omega), flat_get ns hi hk]

theorem row_form {w : World} {base n : Nat} {v : Value} {xs : List Value} (h : w.ownsRow base 69 10 v n xs) : ∃ a cap, v = .slice a n cap ∧ (0 < n → ∃ B, a = some ⟨B, 0, none⟩) := by
  rcases h.2 with ⟨rfl, rfl⟩ | ⟨g, cap, cur, rfl, _⟩
  · exact ⟨none, 0, rfl, by omega⟩
  · exact ⟨_, cap, rfl, fun _ => ⟨g, rfl⟩⟩

set_option maxRecDepth 100000 in
set_option maxHeartbeats 1000000 in
theorem equal_any {w : World} {base n : Nat} {u v : Value} {ns : Nat → Nd} (hu : w.ownsRow base 69 10 u n (flat ns n)) (hv : w.ownsRow base 69 10 v n (flat ns n)) (hn : n ≤ 4096) :
    Calls Yba.prog 18 #[u, v] w fun e w' => e = .returned (.bool true) ∧ ∃ k, w' = w.drewN k := by
  obtain ⟨a, c, rfl, ha⟩ := row_form hu
  obtain ⟨b, d, rfl, hb⟩ := row_form hv
  go_enter Yba.func18, Yba.ntmps18
  go_wp2
  go_loopw [13] (fun t W => ∃ k : Nat, k ≤ n ∧ t = .int .i64 k ∧ ∃ m, W = w.drewN m) (fun t _ => n - (intOf t).toNat)
  case atStart => exact ⟨0, by omega, rfl, 0, rfl⟩
  case round =>
    obtain ⟨k, hk, rfl, m, rfl⟩ := hrel
    by_cases hlt : k < n
    · obtain ⟨B, rfl⟩ := ha (by omega)
      obtain ⟨D, rfl⟩ := hb (by omega)
      have p0 : w.cell? ⟨B, k * 10, none⟩ = some (.int .i64 (ns k).place) := row_cell hu hlt (k := 0) (by omega)
      have p1 : w.cell? ⟨B, k * 10 + 1, none⟩ = some (.int .i32 (ns k).txn) := row_cell hu hlt (k := 1) (by omega)
      have p2 : w.cell? ⟨B, k * 10 + 2, none⟩ = some (.int .i32 (ns k).name) := row_cell hu hlt (k := 2) (by omega)
      have p3 : w.cell? ⟨B, k * 10 + 3, none⟩ = some (.bool (ns k).excl) := row_cell hu hlt (k := 3) (by omega)
      have p4 : w.cell? ⟨B, k * 10 + 4, none⟩ = some (.int .u32 (ns k).prio) := row_cell hu hlt (k := 4) (by omega)
      have p5 : w.cell? ⟨B, k * 10 + 5, none⟩ = some (.int .i32 (ns k).left) := row_cell hu hlt (k := 5) (by omega)
      have p6 : w.cell? ⟨B, k * 10 + 6, none⟩ = some (.int .i32 (ns k).right) := row_cell hu hlt (k := 6) (by omega)
      have p7 : w.cell? ⟨B, k * 10 + 7, none⟩ = some (.int .i32 (ns k).least) := row_cell hu hlt (k := 7) (by omega)
      have p8 : w.cell? ⟨B, k * 10 + 8, none⟩ = some (.int .i32 (ns k).lex) := row_cell hu hlt (k := 8) (by omega)
      have p9 : w.cell? ⟨B, k * 10 + 9, none⟩ = some (.int .i32 (ns k).fex) := row_cell hu hlt (k := 9) (by omega)
      have q0 : w.cell? ⟨D, k * 10, none⟩ = some (.int .i64 (ns k).place) := row_cell hv hlt (k := 0) (by omega)
      have q1 : w.cell? ⟨D, k * 10 + 1, none⟩ = some (.int .i32 (ns k).txn) := row_cell hv hlt (k := 1) (by omega)
      have q2 : w.cell? ⟨D, k * 10 + 2, none⟩ = some (.int .i32 (ns k).name) := row_cell hv hlt (k := 2) (by omega)
      have q3 : w.cell? ⟨D, k * 10 + 3, none⟩ = some (.bool (ns k).excl) := row_cell hv hlt (k := 3) (by omega)
      have q4 : w.cell? ⟨D, k * 10 + 4, none⟩ = some (.int .u32 (ns k).prio) := row_cell hv hlt (k := 4) (by omega)
      have q5 : w.cell? ⟨D, k * 10 + 5, none⟩ = some (.int .i32 (ns k).left) := row_cell hv hlt (k := 5) (by omega)
      have q6 : w.cell? ⟨D, k * 10 + 6, none⟩ = some (.int .i32 (ns k).right) := row_cell hv hlt (k := 6) (by omega)
      have q7 : w.cell? ⟨D, k * 10 + 7, none⟩ = some (.int .i32 (ns k).least) := row_cell hv hlt (k := 7) (by omega)
      have q8 : w.cell? ⟨D, k * 10 + 8, none⟩ = some (.int .i32 (ns k).lex) := row_cell hv hlt (k := 8) (by omega)
      have q9 : w.cell? ⟨D, k * 10 + 9, none⟩ = some (.int .i32 (ns k).fex) := row_cell hv hlt (k := 9) (by omega)
      have g1 : (0 : Int) ≤ (k : Int) := by omega
      have g2 : (k : Int) < (n : Int) := by omega
      go_wp2
      go_quiet (fail)
      go_wp2
      exact ⟨⟨k + 1, by omega, by go_num, _, rfl⟩, by simp [intOf]; omega⟩
    · go_wp2
      go_ret
      exact ⟨rfl, _, rfl⟩
end Go.Proofs.Ybulkfhsm.B
