/-
  The walk of the law A: its head.
-/
import Derived.Test.YbulkfhsmALaw9
namespace Go.Proofs.Ybulkfhsm.A
open Go.RowKit
attribute [local go_sem ↓] Go.wp_at_zero Go.wp_at_succ

/-- The drawn values. -/
structure Given (W : World) (a : Option Addr) (n : Nat) (u : Nat → Int) : Prop where
  form : 0 < n → ∃ b off, a = some ⟨b, off, none⟩
  cell : ∀ b off, a = some ⟨b, off, none⟩ → ∀ i, i < n → W.cell? ⟨b, off + i, none⟩ = some (.int .i32 (u i))

theorem Given.below {W W' : World} {a : Option Addr} {n : Nat} {u : Nat → Int} (h : Given W a n u) (hb : Below W.heap.size W W') : Given W' a n u :=
  ⟨h.form, fun b off e i hi => cell_below hb (h.cell b off e i hi)⟩

/-- m distinct values. -/
def Apart (V : Nat → Int) (m : Nat) : Prop := ∀ s t, s < m → t < m → V s = V t → s = t

theorem apart_add {V : Nat → Int} {m : Nat} {x : Int} (h : Apart V m) (hx : ∀ q, q < m → V q ≠ x) : Apart (putI V m x) (m + 1) := by
  intro s t hs ht e
  unfold putI at e
  by_cases e1 : s = m
  · by_cases e2 : t = m
    · omega
    · rw [if_pos e1, if_neg e2] at e; exact absurd e.symm (hx t (by omega))
  · by_cases e2 : t = m
    · rw [if_neg e1, if_pos e2] at e; exact absurd e (hx s (by omega))
    · rw [if_neg e1, if_neg e2] at e; exact h s t (by omega) (by omega) e

set_option maxRecDepth 100000 in
set_option maxHeartbeats 16000000 in
theorem law_walk {w : World} {oa ua : Option Addr} {N n oc uc : Nat} {n8 : Int} {k t x u : Nat → Int} (hD : Drawn w oa N k t x) (hG : Given w ua n u) (hn8 : 0 ≤ n8 ∧ n8 ≤ 255) :
    Calls Yba.prog 3 #[.slice oa N oc, .slice ua n uc, .int .u8 n8] w (Yes w) := by
  have N0 : (0 : Int) ≤ (N : Int) := by omega
  have n0 : (0 : Int) ≤ (n : Int) := by omega
  by_cases hb : 4096 < N
  · have hb' : (4096 : Int) < (N : Int) := by omega
    go_enter Yba.func3, Yba.ntmps3
    go_wp2
    go_ret
    exact ⟨rfl, Below.refl _ _⟩
  have hb' : ¬ (4096 : Int) < (N : Int) := by omega
  by_cases hc : 4096 < n
  · have hc' : (4096 : Int) < (n : Int) := by omega
    go_enter Yba.func3, Yba.ntmps3
    go_wp2
    go_ret
    exact ⟨rfl, Below.refl _ _⟩
  have hc' : ¬ (4096 : Int) < (n : Int) := by omega
  have n1 : (n : Int) ≤ 4096 := by omega
  obtain ⟨i25, ji, jz0, jz1, jz2⟩ := info_parts info25
  obtain ⟨B, eB⟩ : ∃ B, B = w.heap.size := ⟨_, rfl⟩
  have EB := hide eB
  clear eB
  go_enter Yba.func3, Yba.ntmps3
  go_upto_block 0 with (fail)
  go_cut [7, 9, 10, 12] from 60 to 80 (fun v _ _ _ W => ∃ m V, W.ownsRow B 25 1 v m (rowF (fun i => .int .i32 (V i)) m) ∧ Apart V m ∧ m ≤ n ∧ Below B w W)
  case first =>
    go_wp2_with fail
    go_loopw [7, 60] (fun v y W => ∃ (j m : Nat) (V : Nat → Int), y = .int .i64 (j : Int) ∧ j ≤ n ∧ W.ownsRow B 25 1 v m (rowF (fun i => .int .i32 (V i)) m) ∧ Apart V m ∧ m ≤ j ∧ Below B w W) (fun _ y _ => n - (intOf y).toNat)
    case atStart => exact ⟨0, 0, fun _ => 0, rfl, by omega, World.ownsRow_nil _ _ _ _, fun s t hs => by omega, by omega, Below.refl _ _⟩
    case round =>
      obtain ⟨j, m, V, rfl, hj, hown, hA, hm, hB⟩ := hrel
      have HA := hide hA
      clear hA
      have j0 : (0 : Int) ≤ (j : Int) := by omega
      by_cases hlt : j < n
      · have j1 : (j : Int) < (n : Int) := by omega
        obtain ⟨b, off, rfl⟩ := hG.form (by omega)
        have q0 := (hG.below (W' := wr) (by rw [← EB.out]; exact hB)).cell b off rfl j hlt
        have m1 : (m : Int) ≤ 4096 := by omega
        have m0 : (0 : Int) ≤ (m : Int) := by omega
        obtain ⟨va, vcap, rfl⟩ := slice_form hown
        go_upto_block 2 with (fail)
        go_cut [10, 12] from 66 to 80 (fun dv _ W => (∃ dup : Bool, dv = .bool dup ∧ (dup = false → ∀ q, q < m → V q ≠ u j)) ∧ W = wr)
        case first =>
          clear q0
          go_wp2_with fail
          go_loopw [10, 66] (fun dv y W => ∃ q : Nat, dv = .bool false ∧ y = .int .i64 (q : Int) ∧ q ≤ m ∧ (∀ s, s < q → V s ≠ u j) ∧ W = wr) (fun _ y _ => m - (intOf y).toNat)
          case atStart => exact ⟨0, rfl, rfl, by omega, by omega, rfl⟩
          case round =>
            obtain ⟨q, rfl, rfl, hq, hs, ew⟩ := hrel
            obtain rfl := ew.symm
            have HS := hide hs
            clear hs
            have k0 : (0 : Int) ≤ (q : Int) := by omega
            by_cases hqm : q < m
            · have k1 : (q : Int) < (m : Int) := by omega
              obtain ⟨g, gc, e, _⟩ := row_form hown (by omega)
              cases e
              have cq := cells_own hown hqm
              by_cases he : V q = u j
              · rw [he] at cq
                go_wp2
                go_meet
                case rel => exact ⟨⟨true, rfl, fun h => by cases h⟩, rfl⟩
              · have he' : (V q == u j) = false := by simpa using he
                have HE := hide he
                clear he
                go_wp2
                refine ⟨⟨q + 1, rfl, by go_num, by omega, fun s hs => ?_, by trivial⟩, by simp [intOf]; omega⟩
                by_cases e : s = q
                · subst e; exact HE.out
                · exact HS.out s (by omega)
            · have k1 : ¬ (q : Int) < (m : Int) := by omega
              obtain rfl : q = m := by omega
              go_wp2
              go_meet
              case rel => exact ⟨⟨false, rfl, fun _ => HS.out⟩, rfl⟩
        case rest =>
        obtain ⟨⟨dup, rfl, hdup⟩, ew⟩ := hcut
        obtain rfl := ew.symm
        have HDUP := hide hdup
        clear hdup q0
        cases dup
        · have lB : B ≤ wr.heap.size := by rw [EB.out]; exact hB.size
          go_wp2_with (at_builtin; refine wpList_append_lies _ rfl _ _ 24 rfl B 25 i25 _ 1 4 Yba.underlying24 ji jz0 jz1 jz2 rfl (by omega) _ m (rowF (fun i => .int .i32 (V i)) m) rfl (by exact hown.alloc _) _ 1 1 [.int .i32 (u j)] rfl rfl (by exact World.news_of_block (heap_alloc_new _ _)) (by simp [Value.oneCell']) (by omega) (by simp only [maxLen]; omega) (by omega) (by simp only [World.size_alloc]; omega) _ rfl ?_; intro g cap' w3 hown3 hgrow hat hlt3)
          refine ⟨⟨j + 1, m + 1, putI V m (u j), by go_num, by omega, ?_, apart_add HA.out (HDUP.out rfl), by omega, Below.grown (hB.alloc lB _) hgrow (by simp only [World.size_alloc]; omega) (fun k e => (hown.lt k e).1)⟩, by simp [intOf]; omega⟩
          rw [rowF_succ, rowF_congr (f' := fun i => .int .i32 (V i)) (fun i hi => by simp only [putI]; rw [if_neg (by omega)])]
          simp only [putI]
          exact hown3
        · go_wp2
          exact ⟨⟨j + 1, m, V, by go_num, by omega, hown, HA.out, by omega, hB⟩, by simp [intOf]; omega⟩
      · have j1 : ¬ (j : Int) < (n : Int) := by omega
        go_wp2
        go_meet
        case rel => exact ⟨m, V, hown, HA.out, by omega, hB⟩
  case rest =>
  obtain ⟨m, V, hown, hA, hmn, hB⟩ := hcut
  have HA := hide hA
  clear hA
  obtain ⟨va, vcap, rfl⟩ := slice_form hown
  have lB : B ≤ wc.heap.size := by rw [EB.out]; exact hB.size
  go_upto_if 83 with (fail)
  go_cut [7] from 81 to 84 (fun v W => ∃ (g nt cv : Nat) (V : Nat → Int), v = .slice (some ⟨g, 0, none⟩) nt cv ∧ 0 < nt ∧ nt ≤ 4096 ∧ Apart V nt ∧ (∀ t, t < nt → W.cell? ⟨g, t, none⟩ = some (.int .i32 (V t))) ∧ Below B w W)
  case first =>
    by_cases h0 : m = 0
    · subst h0
      go_wp2
      go_meet
      case rel =>
        refine ⟨_, 1, 1, fun _ => 1, rfl, by omega, by omega, fun s t hs ht _ => by omega, fun t ht => ?_, hB.alloc lB _⟩
        have e : t = 0 := by omega
        subst e
        exact (Blk.new wc 25 [.int .i32 1]).cell rfl
    · have h0' : ((m : Int) == 0) = false := by simpa using h0
      obtain ⟨g, gc, e, _⟩ := row_form hown (by omega)
      cases e
      go_wp2
      go_meet
      case rel => exact ⟨g, m, vcap, V, rfl, by omega, by omega, HA.out, fun t ht => cells_own hown ht, hB⟩
  case rest =>
  clear hown HA hB
  obtain ⟨g, nt, cv, V, rfl, hp, hnt, hA, hcell, hB⟩ := hcut
  have hb2 : Below w.heap.size w wc := by rw [← EB.out]; exact hB
  rename_i hK
  exact hK _ _ (part_19 (hD.below hb2) (by omega) hn8 hnt hp hA hcell hb2)
end Go.Proofs.Ybulkfhsm.A
