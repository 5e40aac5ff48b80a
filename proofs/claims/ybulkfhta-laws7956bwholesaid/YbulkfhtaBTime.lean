/-
  time.Time without a monotonic clock, as its nanoseconds.
-/
import Derived.Test.YbulkfhtaProg
import Derived.Test.YbulkfhtaBBits
import Derived.WalkKit
import Derived.WalkSpells
import Derived.Deep.QuietTactic
import Derived.BigQuiet
import Derived.Deep.DrawnRows
import Derived.Deep.CutRange
import Derived.Deep.CutBlock
namespace Go.Proofs.Ybulkfhta.B
open Go.RowKit
attribute [local go_sem ↓] Go.wp_at_zero Go.wp_at_succ

theorem hide {p : Prop} (h : p) : Hid p := h

set_option maxHeartbeats 1000000 in
theorem nsec_any {W : World} {b : Nat} {wall : Int} (c0 : W.cell? ⟨b, 0, none⟩ = some (.int .u64 wall)) (h0 : 0 ≤ wall) (h1 : wall < 1000000000) :
    Calls Yba.prog 21 #[.pointer (some ⟨b, 0, none⟩)] W fun e w' => e = .returned (.int .i32 wall) ∧ w' = W := by
  have e1 := mask_low h0 h1
  have e2 : wrap32 wall = wall := by unfold wrap32; omega
  go_enter Yba.func21, Yba.ntmps21
  go_wp2
  go_ret
  exact ⟨by simp, rfl⟩

set_option maxHeartbeats 1000000 in
theorem sec_any {W : World} {b : Nat} {wall ext : Int} (c0 : W.cell? ⟨b, 0, none⟩ = some (.int .u64 wall)) (c1 : W.cell? ⟨b, 1, none⟩ = some (.int .i64 ext)) (h0 : 0 ≤ wall) (h1 : wall < 1000000000) :
    Calls Yba.prog 20 #[.pointer (some ⟨b, 0, none⟩)] W fun e w' => e = .returned (.int .i64 ext) ∧ w' = W := by
  have e1 := mask_mono h0 h1
  go_enter Yba.func20, Yba.ntmps20
  go_wp2
  go_ret
  exact ⟨by simp, rfl⟩

set_option maxHeartbeats 1000000 in
theorem addSec_any {W : World} {b : Nat} {wall ext d : Int} (c0 : W.cell? ⟨b, 0, none⟩ = some (.int .u64 wall)) (c1 : W.cell? ⟨b, 1, none⟩ = some (.int .i64 ext)) (f : ∀ o, W.frozen? ⟨b, o, none⟩ = false) (h0 : 0 ≤ wall) (h1 : wall < 1000000000)
    (h2 : -100000000000 ≤ ext) (h3 : ext ≤ 100000000000) (h4 : -100000000000 ≤ d) (h5 : d ≤ 100000000000) :
    Calls Yba.prog 22 #[.pointer (some ⟨b, 0, none⟩), .int .i64 d] W fun e w' => e = .returned (.tuple #[]) ∧ w' = W.setCell ⟨b, 1, none⟩ (.int .i64 (ext + d)) := by
  have e1 := mask_mono h0 h1
  have e2 : wrap64 (ext + d) = ext + d := by unfold wrap64; omega
  by_cases hd : 0 < d
  · have h6 : decide (ext < ext + d) = true := by simp; omega
    go_enter Yba.func22, Yba.ntmps22
    go_wp2
    go_end0
    exact ⟨rfl, rfl⟩
  · have h6 : decide (ext < ext + d) = false := by simp; omega
    go_enter Yba.func22, Yba.ntmps22
    go_wp2
    go_end0
    exact ⟨rfl, rfl⟩

theorem results_time {fn : Func} {p : Tmp} (h : fn.results = #[.cell p 37]) {tmps : Array Value} {w : World} {g : Nat} (hp : tmps.getD p undef = .pointer (some ⟨g, 0, none⟩)) {v0 v1 v2 : Value}
    (c0 : w.cell? ⟨g, 0, none⟩ = some v0) (c1 : w.cell? ⟨g, 1, none⟩ = some v1) (c2 : w.cell? ⟨g, 2, none⟩ = some v2) : (results fn tmps).run Yba.prog w = .ok (.agg #[v0, v1, v2]) w := by
  have hl := run_loadCells_list (P := Yba.prog) w ⟨g, 0, none⟩ [v0, v1, v2] (by
    intro j v hv
    rw [Addr.add_lit, Nat.zero_add]
    match j with
    | 0 => simp at hv; subst hv; exact c0
    | 1 => simp at hv; subst hv; exact c1
    | 2 => simp at hv; subst hv; exact c2
    | n + 3 => simp at hv)
  have hp' : tmps[p]?.getD undef = .pointer (some ⟨g, 0, none⟩) := by simpa using hp
  simp only [List.length_cons, List.length_nil, Nat.zero_add, Nat.reduceAdd] at hl
  simp [results, h, loadVar, hp', asAddr, Yba.isAgg37, Yba.sizeOf37, hl]

/-- The time n nanoseconds behind the zero time. -/
def tv (n : Int) : Value := .agg #[.int .u64 (n % 1000000000), .int .i64 (n / 1000000000), .pointer none]

theorem quot_parts (m : Int) : ∃ q r : Int, m.tdiv 1000000000 = q ∧ m.tmod 1000000000 = r ∧ m = q * 1000000000 + r ∧ -1000000000 < r ∧ r < 1000000000 := by
  refine ⟨_, _, rfl, rfl, ?_, ?_, ?_⟩
  · have := Int.tmod_def m 1000000000; omega
  · have := Int.lt_tmod_of_pos m (show (0 : Int) < 1000000000 by omega); omega
  · exact Int.tmod_lt_of_pos m (by omega)

set_option maxRecDepth 100000 in
set_option maxHeartbeats 2000000 in
theorem add_any {n m : Int} {W : World} (hn0 : -9223372036854775808 ≤ n) (hn1 : n ≤ 9223372036854775807) (hm0 : -9223372036854775808 ≤ m) (hm1 : m ≤ 9223372036854775807) :
    Calls Yba.prog 12 #[tv n, .int .i64 m] W fun e w' => e = .returned (tv (n + m)) ∧ Below W.heap.size W w' := by
  obtain ⟨q, r, hq, hr, hqr, r0, r1⟩ := quot_parts m
  have HQR := hide hqr
  have a0 : 0 ≤ n % 1000000000 := by omega
  have a1 : n % 1000000000 < 1000000000 := by omega
  obtain ⟨a, ea⟩ : ∃ a, a = n % 1000000000 := ⟨_, rfl⟩
  obtain ⟨b, eb⟩ : ∃ b, b = n / 1000000000 := ⟨_, rfl⟩
  have hab : n = b * 1000000000 + a := by omega
  have HAB := hide hab
  unfold tv
  rw [← ea, ← eb]
  rw [← ea] at a0 a1
  have b0 : -10000000000 ≤ b := by omega
  have b1 : b ≤ 10000000000 := by omega
  have q0 : -10000000000 ≤ q := by omega
  have q1 : q ≤ 10000000000 := by omega
  clear hqr hab ea eb
  have w1 : wrap32 r = r := by unfold wrap32; omega
  have w2 : wrap32 (a + r) = a + r := by unfold wrap32; omega
  have HR := hide hr
  have HQ := hide hq
  go_enter Yba.func12, Yba.ntmps12
  go_upto_region 1 with (fail)
  obtain ⟨w1', ew⟩ : ∃ w1', w1' = (W.alloc (.cells #[.int .u64 a, .int .i64 b, .pointer none] 37)).alloc (.cells #[.int .u64 0, .int .i64 0, .pointer none] 37) := ⟨_, rfl⟩
  obtain ⟨s, es⟩ : ∃ s, s = W.heap.size := ⟨_, rfl⟩
  have c0 : w1'.cell? ⟨s, 0, none⟩ = some (.int .u64 a) := by rw [ew, es]; simp
  have c1 : w1'.cell? ⟨s, 1, none⟩ = some (.int .i64 b) := by rw [ew, es]; simp
  have c2 : w1'.cell? ⟨s, 2, none⟩ = some (.pointer none) := by rw [ew, es]; simp
  have z0 : w1'.cell? ⟨s + 1, 0, none⟩ = some (.int .u64 0) := by rw [ew, es]; simp
  have z1 : w1'.cell? ⟨s + 1, 1, none⟩ = some (.int .i64 0) := by rw [ew, es]; simp
  have z2 : w1'.cell? ⟨s + 1, 2, none⟩ = some (.pointer none) := by rw [ew, es]; simp
  have f0 : ∀ o, w1'.frozen? ⟨s, o, none⟩ = false := fun o => by rw [ew, es]; simp
  have f1 : ∀ o, w1'.frozen? ⟨s + 1, o, none⟩ = false := fun o => by rw [ew, es]; simp
  have hB : Below s W w1' := by rw [ew, es]; exact ((Below.refl _ W).alloc (Nat.le_refl _) _).alloc (by simp) _
  rw [← ew, ← es]
  have ES := hide es
  clear ew es
  go_wp2_with fail
  refine (nsec_any c0 a0 a1).mono ?_
  rintro e w' ⟨rfl, ew⟩
  obtain rfl := ew.symm
  go_upto_if 16 with (fail)
  go_cut [5, 6] from 15 to 26 (fun x y W' => ∃ q' ns : Int, x = .int .i64 q' ∧ y = .int .i32 ns ∧ 0 ≤ ns ∧ ns < 1000000000 ∧ -20000000000 ≤ q' ∧ q' ≤ 20000000000 ∧ b + q' = (n + m) / 1000000000 ∧ ns = (n + m) % 1000000000 ∧ W' = w1')
  case first =>
    by_cases hc : 1000000000 ≤ a + r
    · have w3 : wrap32 (a + r - 1000000000) = a + r - 1000000000 := by unfold wrap32; omega
      have w4 : wrap64 (q + 1) = q + 1 := by unfold wrap64; omega
      go_wp2
      go_meet
      case rel =>
        have := HQR.out
        have := HAB.out
        exact ⟨_, _, rfl, rfl, by omega, by omega, by omega, by omega, by omega, by omega, rfl⟩
    · by_cases hd : a + r < 0
      · have w3 : wrap32 (a + r + 1000000000) = a + r + 1000000000 := by unfold wrap32; omega
        have w4 : wrap64 (q - 1) = q - 1 := by unfold wrap64; omega
        go_wp2
        go_meet
        case rel =>
          have := HQR.out
          have := HAB.out
          exact ⟨_, _, rfl, rfl, by omega, by omega, by omega, by omega, by omega, by omega, rfl⟩
      · go_wp2
        go_meet
        case rel =>
          have := HQR.out
          have := HAB.out
          exact ⟨_, _, rfl, rfl, by omega, by omega, by omega, by omega, by omega, by omega, rfl⟩
  case rest =>
  obtain ⟨q', ns, rfl, rfl, n0, n1, p0, p1, hs1, hs2, ew⟩ := hcut
  obtain rfl := ew.symm
  have HS1 := hide hs1
  have HS2 := hide hs2
  clear hs1 hs2
  have e1 := clear_low a0 a1
  have e2 := or_zero n0 n1
  have e3 := mask_mono n0 n1
  go_wp2_with fail
  have d0 : (w1'.setCell ⟨s, 0, none⟩ (.int .u64 ns)).cell? ⟨s, 0, none⟩ = some (.int .u64 ns) := World.cell?_setCell_same _ _ _ c0
  have d1 : (w1'.setCell ⟨s, 0, none⟩ (.int .u64 ns)).cell? ⟨s, 1, none⟩ = some (.int .i64 b) := by rw [World.cell?_setCell_other _ _ _ _ (by simp)]; exact c1
  have d2 : (w1'.setCell ⟨s, 0, none⟩ (.int .u64 ns)).cell? ⟨s, 2, none⟩ = some (.pointer none) := by rw [World.cell?_setCell_other _ _ _ _ (by simp)]; exact c2
  have dz : ∀ i, (w1'.setCell ⟨s, 0, none⟩ (.int .u64 ns)).cell? ⟨s + 1, i, none⟩ = w1'.cell? ⟨s + 1, i, none⟩ := fun i => by rw [World.cell?_setCell_other _ _ _ _ (by simp)]
  have df : ∀ a : Addr, (w1'.setCell ⟨s, 0, none⟩ (.int .u64 ns)).frozen? a = w1'.frozen? a := fun a => World.frozen?_setCell _ _ _ _
  have hB2 : Below s W (w1'.setCell ⟨s, 0, none⟩ (.int .u64 ns)) := hB.setCell (Nat.le_refl _) _
  generalize (w1'.setCell ⟨s, 0, none⟩ (.int .u64 ns)) = w2 at d0 d1 d2 dz df hB2 ⊢
  have g0 : ∀ o, w2.frozen? ⟨s, o, none⟩ = false := fun o => (df _).trans (f0 o)
  have g1 : ∀ o, w2.frozen? ⟨s + 1, o, none⟩ = false := fun o => (df _).trans (f1 o)
  refine (addSec_any d0 d1 g0 n0 n1 (by omega) (by omega) (by omega) (by omega)).mono ?_
  rintro e w' ⟨rfl, rfl⟩
  have k0 : (w2.setCell ⟨s, 1, none⟩ (.int .i64 (b + q'))).cell? ⟨s, 0, none⟩ = some (.int .u64 ns) := by rw [World.cell?_setCell_other _ _ _ _ (by simp)]; exact d0
  have k1 : (w2.setCell ⟨s, 1, none⟩ (.int .i64 (b + q'))).cell? ⟨s, 1, none⟩ = some (.int .i64 (b + q')) := World.cell?_setCell_same _ _ _ d1
  have k2 : (w2.setCell ⟨s, 1, none⟩ (.int .i64 (b + q'))).cell? ⟨s, 2, none⟩ = some (.pointer none) := by rw [World.cell?_setCell_other _ _ _ _ (by simp)]; exact d2
  have y0 : (w2.setCell ⟨s, 1, none⟩ (.int .i64 (b + q'))).cell? ⟨s + 1, 0, none⟩ = some (.int .u64 0) := by rw [World.cell?_setCell_other _ _ _ _ (by simp), dz]; exact z0
  have y1 : (w2.setCell ⟨s, 1, none⟩ (.int .i64 (b + q'))).cell? ⟨s + 1, 1, none⟩ = some (.int .i64 0) := by rw [World.cell?_setCell_other _ _ _ _ (by simp), dz]; exact z1
  have y2 : (w2.setCell ⟨s, 1, none⟩ (.int .i64 (b + q'))).cell? ⟨s + 1, 2, none⟩ = some (.pointer none) := by rw [World.cell?_setCell_other _ _ _ _ (by simp), dz]; exact z2
  have hB3 : Below s W (w2.setCell ⟨s, 1, none⟩ (.int .i64 (b + q'))) := hB2.setCell (Nat.le_refl _) _
  have h1 : ∀ o, (w2.setCell ⟨s, 1, none⟩ (.int .i64 (b + q'))).frozen? ⟨s + 1, o, none⟩ = false := fun o => by rw [World.frozen?_setCell]; exact g1 o
  generalize (w2.setCell ⟨s, 1, none⟩ (.int .i64 (b + q'))) = w3 at k0 k1 k2 y0 y1 y2 hB3 h1 ⊢
  clear d0 d1 d2 dz df hB2 c0 c1 c2 z0 z1 z2 f0 f1 hB g0 g1
  go_wp2
  refine bodyPost_ret (results_time rfl rfl (v0 := .int .u64 ns) (v1 := .int .i64 (b + q')) (v2 := .pointer none) ?_ ?_ ?_) rfl ?_
  · rw [World.cell?_setCell_other _ _ _ _ (by simp), World.cell?_setCell_other _ _ _ _ (by simp)]; exact World.cell?_setCell_same _ _ _ y0
  · rw [World.cell?_setCell_other _ _ _ _ (by simp)]; exact World.cell?_setCell_same _ _ _ (by rw [World.cell?_setCell_other _ _ _ _ (by simp)]; exact y1)
  · exact World.cell?_setCell_same _ _ _ (by rw [World.cell?_setCell_other _ _ _ _ (by simp), World.cell?_setCell_other _ _ _ _ (by simp)]; exact y2)
  refine ⟨by rw [HS1.out, HS2.out], ?_⟩
  rw [← ES.out]
  exact ((hB3.setCell (by simp) _).setCell (by simp) _).setCell (by simp) _

/-- Two times laid into two new blocks. -/
structure Two (W w1 : World) (n m : Int) (s : Nat) : Prop where
  a0 : w1.cell? ⟨s, 0, none⟩ = some (.int .u64 (n % 1000000000))
  a1 : w1.cell? ⟨s, 1, none⟩ = some (.int .i64 (n / 1000000000))
  b0 : w1.cell? ⟨s + 1, 0, none⟩ = some (.int .u64 (m % 1000000000))
  b1 : w1.cell? ⟨s + 1, 1, none⟩ = some (.int .i64 (m / 1000000000))
  bel : Below s W w1

theorem two_new (W : World) (n m : Int) : Two W ((W.alloc (.cells #[.int .u64 (n % 1000000000), .int .i64 (n / 1000000000), .pointer none] 37)).alloc (.cells #[.int .u64 (m % 1000000000), .int .i64 (m / 1000000000), .pointer none] 37)) n m W.heap.size :=
  ⟨by simp, by simp, by simp, by simp, ((Below.refl _ W).alloc (Nat.le_refl _) _).alloc (by simp) _⟩

set_option maxRecDepth 100000 in
set_option maxHeartbeats 2000000 in
theorem before_any (n m : Int) (W : World) : Calls Yba.prog 15 #[tv n, tv m] W fun e w' => e = .returned (.bool (decide (n < m))) ∧ Below W.heap.size W w' := by
  have hT := two_new W n m
  obtain ⟨s, es⟩ : ∃ s, s = W.heap.size := ⟨_, rfl⟩
  have n0 : 0 ≤ n % 1000000000 := by omega
  have n1 : n % 1000000000 < 1000000000 := by omega
  have m0 : 0 ≤ m % 1000000000 := by omega
  have m1 : m % 1000000000 < 1000000000 := by omega
  have hmask := mask_both n0 n1 m0 m1
  unfold tv
  go_enter Yba.func15, Yba.ntmps15
  go_upto_region 1 with (fail)
  generalize ((W.alloc (.cells #[.int .u64 (n % 1000000000), .int .i64 (n / 1000000000), .pointer none] 37)).alloc (.cells #[.int .u64 (m % 1000000000), .int .i64 (m / 1000000000), .pointer none] 37)) = w1 at hT ⊢
  rw [← es] at hT ⊢
  have ES := hide es
  clear es
  have a0 := hT.a0
  have a1 := hT.a1
  have b0 := hT.b0
  have b1 := hT.b1
  go_wp2_with fail
  refine (sec_any a0 a1 n0 n1).mono ?_
  rintro e w' ⟨rfl, ew⟩
  obtain rfl := ew.symm
  go_wp2_with fail
  refine (sec_any b0 b1 m0 m1).mono ?_
  rintro e w' ⟨rfl, ew⟩
  obtain rfl := ew.symm
  by_cases h1 : n / 1000000000 < m / 1000000000
  · have HF : Hid (decide (n < m) = true) := hide (by simp; omega)
    go_wp2
    go_ret
    exact ⟨by rw [HF.out]; rfl, by rw [← ES.out]; exact hT.bel⟩
  · have h1' : decide (n / 1000000000 < m / 1000000000) = false := by simpa using h1
    by_cases h2 : n / 1000000000 = m / 1000000000
    · have h2' : (n / 1000000000 == m / 1000000000) = true := by simpa using h2
      have HF : Hid (decide (n < m) = decide (n % 1000000000 < m % 1000000000)) := hide (by congr 1; simp; omega)
      clear h2
      go_wp2_with fail
      refine (nsec_any a0 n0 n1).mono ?_
      rintro e w' ⟨rfl, ew⟩
      obtain rfl := ew.symm
      go_wp2_with fail
      refine (nsec_any b0 m0 m1).mono ?_
      rintro e w' ⟨rfl, ew⟩
      obtain rfl := ew.symm
      go_wp2
      go_ret
      exact ⟨by rw [HF.out]; rfl, by rw [← ES.out]; exact hT.bel⟩
    · have h2' : (n / 1000000000 == m / 1000000000) = false := by simpa using h2
      have HF : Hid (decide (n < m) = false) := hide (by simp; omega)
      clear h2
      go_wp2
      go_ret
      exact ⟨by rw [HF.out]; rfl, by rw [← ES.out]; exact hT.bel⟩

set_option maxRecDepth 100000 in
set_option maxHeartbeats 2000000 in
theorem equal_any (n m : Int) (W : World) : Calls Yba.prog 10 #[tv n, tv m] W fun e w' => e = .returned (.bool (decide (n = m))) ∧ Below W.heap.size W w' := by
  have hT := two_new W n m
  obtain ⟨s, es⟩ : ∃ s, s = W.heap.size := ⟨_, rfl⟩
  have n0 : 0 ≤ n % 1000000000 := by omega
  have n1 : n % 1000000000 < 1000000000 := by omega
  have m0 : 0 ≤ m % 1000000000 := by omega
  have m1 : m % 1000000000 < 1000000000 := by omega
  have hmask := mask_both n0 n1 m0 m1
  unfold tv
  go_enter Yba.func10, Yba.ntmps10
  go_upto_region 1 with (fail)
  generalize ((W.alloc (.cells #[.int .u64 (n % 1000000000), .int .i64 (n / 1000000000), .pointer none] 37)).alloc (.cells #[.int .u64 (m % 1000000000), .int .i64 (m / 1000000000), .pointer none] 37)) = w1 at hT ⊢
  rw [← es] at hT ⊢
  have ES := hide es
  clear es
  have a0 := hT.a0
  have a1 := hT.a1
  have b0 := hT.b0
  have b1 := hT.b1
  go_wp2_with fail
  refine (sec_any a0 a1 n0 n1).mono ?_
  rintro e w' ⟨rfl, ew⟩
  obtain rfl := ew.symm
  go_wp2_with fail
  refine (sec_any b0 b1 m0 m1).mono ?_
  rintro e w' ⟨rfl, ew⟩
  obtain rfl := ew.symm
  by_cases h2 : n / 1000000000 = m / 1000000000
  · have h2' : (n / 1000000000 == m / 1000000000) = true := by simpa using h2
    have HF : Hid (decide (n = m) = (n % 1000000000 == m % 1000000000)) := hide (by
      by_cases h3 : n % 1000000000 = m % 1000000000
      · rw [show n = m by omega]; simp
      · rw [show decide (n = m) = false by simp; omega]; simp [h3])
    clear h2
    go_wp2_with fail
    refine (nsec_any a0 n0 n1).mono ?_
    rintro e w' ⟨rfl, ew⟩
    obtain rfl := ew.symm
    go_wp2_with fail
    refine (nsec_any b0 m0 m1).mono ?_
    rintro e w' ⟨rfl, ew⟩
    obtain rfl := ew.symm
    go_wp2
    go_ret
    exact ⟨by rw [HF.out]; rfl, by rw [← ES.out]; exact hT.bel⟩
  · have h2' : (n / 1000000000 == m / 1000000000) = false := by simpa using h2
    have HF : Hid (decide (n = m) = false) := hide (by simp; omega)
    clear h2
    go_wp2
    go_ret
    exact ⟨by rw [HF.out]; rfl, by rw [← ES.out]; exact hT.bel⟩

set_option maxHeartbeats 2000000 in
theorem isZero_any (n : Int) (W : World) : Calls Yba.prog 17 #[tv n] W fun e w' => e = .returned (.bool (decide (n = 0))) ∧ Below W.heap.size W w' := by
  have hB : Below W.heap.size W (W.alloc (.cells #[.int .u64 (n % 1000000000), .int .i64 (n / 1000000000), .pointer none] 37)) := (Below.refl _ W).alloc (Nat.le_refl _) _
  unfold tv
  by_cases h1 : n % 1000000000 = 0
  · by_cases h2 : n / 1000000000 = 0
    · have HF : Hid (decide (n = 0) = true) := hide (by simp; omega)
      rw [h1, h2] at hB ⊢
      clear h1 h2
      go_enter Yba.func17, Yba.ntmps17
      go_wp2
      go_ret
      exact ⟨by rw [HF.out]; rfl, hB⟩
    · have HF : Hid (decide (n = 0) = false) := hide (by simp; omega)
      have h2' : (n / 1000000000 == 0) = false := by simpa using h2
      rw [h1] at hB ⊢
      clear h1 h2
      go_enter Yba.func17, Yba.ntmps17
      go_wp2
      go_ret
      exact ⟨by rw [HF.out]; rfl, hB⟩
  · have HF : Hid (decide (n = 0) = false) := hide (by simp; omega)
    have h1' : (n % 1000000000 == 0) = false := by simpa using h1
    clear h1
    go_enter Yba.func17, Yba.ntmps17
    go_wp2
    go_ret
    exact ⟨by rw [HF.out]; rfl, hB⟩

set_option maxHeartbeats 2000000 in
theorem bat_any {n : Int} {W : World} (h0 : -9223372036854775808 ≤ n) (h1 : n ≤ 9223372036854775807) : Calls Yba.prog 7 #[.int .i64 n] W fun e w' => e = .returned (tv n) ∧ Below W.heap.size W w' := by
  have hcon := add_any (n := 0) (m := n) (W := W.alloc (.cells #[.int .u64 0, .int .i64 0, .pointer none] 37)) (by omega) (by omega) h0 h1
  rw [show tv 0 = .agg #[.int .u64 0, .int .i64 0, .pointer none] from rfl, Int.zero_add] at hcon
  have HC := hide hcon
  clear hcon
  go_enter Yba.func7, Yba.ntmps7
  go_wp2_with fail
  refine HC.out.mono ?_
  rintro e w' ⟨rfl, hb⟩
  unfold tv
  have z : ∀ i v, (W.alloc (.cells #[.int .u64 0, .int .i64 0, .pointer none] 37)).cell? ⟨W.heap.size, i, none⟩ = some v → w'.cell? ⟨W.heap.size, i, none⟩ = some v := fun i v hv => (World.cell?_of_block (hb.block W.heap.size (by simp))).trans hv
  have y0 := z 0 (.int .u64 0) (by simp)
  have y1 := z 1 (.int .i64 0) (by simp)
  have y2 := z 2 (.pointer none) (by simp)
  have yf : ∀ o, w'.frozen? ⟨W.heap.size, o, none⟩ = false := fun o => (World.frozen?_of_block (hb.block W.heap.size (by simp))).trans (World.frozen?_alloc_new _ _ _ _)
  have hB : Below W.heap.size W w' := ((Below.refl _ W).alloc (Nat.le_refl _) _).trans (hb.mono (by simp))
  clear z hb
  go_wp2
  refine bodyPost_ret (results_time rfl rfl (v0 := .int .u64 (n % 1000000000)) (v1 := .int .i64 (n / 1000000000)) (v2 := .pointer none) ?_ ?_ ?_) rfl ?_
  · rw [World.cell?_setCell_other _ _ _ _ (by simp), World.cell?_setCell_other _ _ _ _ (by simp)]; exact World.cell?_setCell_same _ _ _ y0
  · rw [World.cell?_setCell_other _ _ _ _ (by simp)]; exact World.cell?_setCell_same _ _ _ (by rw [World.cell?_setCell_other _ _ _ _ (by simp)]; exact y1)
  · exact World.cell?_setCell_same _ _ _ (by rw [World.cell?_setCell_other _ _ _ _ (by simp), World.cell?_setCell_other _ _ _ _ (by simp)]; exact y2)
  exact ⟨rfl, ((hB.setCell (Nat.le_refl _) _).setCell (Nat.le_refl _) _).setCell (Nat.le_refl _) _⟩
end Go.Proofs.Ybulkfhta.B
