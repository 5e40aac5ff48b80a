/-
  partitionOrdered.
-/
import Derived.Test.YbulkfhsmCIns
namespace Go.Proofs.Ybulkfhsm.C
open Go.RowKit
attribute [local go_sem ↓] Go.wp_at_zero Go.wp_at_succ

/-- The pivot lies at a; what lies before i is less, what lies behind j is not. -/
def Pt (w W : World) (base g n cap a b : Nat) (d : Nat → Int) (q : Nat → Nat → (Nat → Int) → Prop) (x y : Value) : Prop :=
  ∃ (i j : Nat) (e : Nat → Int), x = .int .i64 (i : Int) ∧ y = .int .i64 (j : Int) ∧ a < i ∧ i ≤ j + 1 ∧ j < b ∧ Now w W base g n cap e ∧ Swaps a b d e ∧
    (∀ k, a < k → k < i → e k < e a) ∧ (∀ k, j < k → k < b → e a ≤ e k) ∧ q i j e

def Q0 (lo i _ : Nat) (_ : Nat → Int) : Prop := lo ≤ i
def Q1 (a lo i j : Nat) (e : Nat → Int) : Prop := lo ≤ i ∧ (i ≤ j → e a ≤ e i)
def Q2 (a lo i j : Nat) (e : Nat → Int) : Prop := lo ≤ i ∧ (i ≤ j → e a ≤ e i ∧ e j < e a)

/-- What the partition leaves. -/
def Pd (w : World) (base g n cap a b : Nat) (d : Nat → Int) (m : Nat) (w' : World) : Prop :=
  ∃ d', Now w w' base g n cap d' ∧ Swaps a b d d' ∧ a ≤ m ∧ m < b ∧ (∀ k, a ≤ k → k < m → d' k ≤ d' m) ∧ ∀ k, m < k → k < b → d' m ≤ d' k

theorem pd_of {w W : World} {base g n cap a b i j : Nat} {d e : Nat → Int} (hb : b ≤ n) (hai : a < i) (hij : i ≤ j + 1) (hj : j < b) (hout : ¬ i ≤ j) (hN : Now w W base g n cap e) (hS : Swaps a b d e)
    (h1 : ∀ k, a < k → k < i → e k < e a) (h2 : ∀ k, j < k → k < b → e a ≤ e k) :
    Pd w base g n cap a b d j ((W.setCell ⟨g, j, none⟩ (.int .i32 (e a))).setCell ⟨g, a, none⟩ (.int .i32 (e j))) := by
  refine ⟨swp e j a, hN.swap (by omega) (by omega), hS.swp (by omega) hj (by omega) (by omega), by omega, hj, fun k k1 k2 => ?_, fun k k1 k2 => ?_⟩
  · rw [swp_left]
    by_cases ek : k = a
    · subst ek; rw [swp_right]; have := h1 j (by omega) (by omega); omega
    · rw [swp_other e (by omega) ek]; have := h1 k (by omega) (by omega); omega
  · rw [swp_left, swp_other e (by omega) (by omega)]; exact h2 k k1 k2

theorem pt_swap {w W : World} {base g n cap a b i j : Nat} {d e : Nat → Int} (hb : b ≤ n) (hai : a < i) (hj : j < b) (hin : i ≤ j) (hN : Now w W base g n cap e) (hS : Swaps a b d e)
    (h1 : ∀ k, a < k → k < i → e k < e a) (h2 : ∀ k, j < k → k < b → e a ≤ e k) {lo : Nat} (hq : Q2 a lo i j e) :
    Pt w ((W.setCell ⟨g, i, none⟩ (.int .i32 (e j))).setCell ⟨g, j, none⟩ (.int .i32 (e i))) base g n cap a b d (Q0 (lo + 1)) (.int .i64 ((i : Int) + 1)) (.int .i64 ((j : Int) - 1)) := by
  obtain ⟨q1, q2⟩ := hq.2 hin
  have hne : i ≠ j := by rintro rfl; omega
  have ea : swp e i j a = e a := swp_other e (by omega) (by omega)
  refine ⟨i + 1, j - 1, swp e i j, by go_num, ?_, by omega, by omega, by omega, hN.swap (by omega) (by omega), hS.swp (by omega) (by omega) (by omega) (by omega), fun k k1 k2 => ?_, fun k k1 k2 => ?_, by have := hq.1; simp only [Q0]; omega⟩
  · congr 1; omega
  · rw [ea]
    by_cases ek : k = i
    · subst ek; rw [swp_left]; exact q2
    · rw [swp_other e ek (by omega)]; exact h1 k k1 (by omega)
  · rw [ea]
    by_cases ek : k = j
    · subst ek; rw [swp_right]; exact q1
    · rw [swp_other e (by omega) ek]; exact h2 k (by omega) k2


set_option maxRecDepth 100000 in
set_option maxHeartbeats 4000000 in
theorem partition_any {w : World} {base g n cap a b p : Nat} {d : Nat → Int} (h : Rw w base g n cap d) (hap : a ≤ p) (hpb : p < b) (hb : b ≤ n) (hn : n ≤ 16384) :
    Calls Yba.prog 46 #[.slice (some ⟨g, 0, none⟩) n cap, .int .i64 (a : Int), .int .i64 (b : Int), .int .i64 (p : Int)] w fun e w' => ∃ (m : Nat) (t : Bool), e = .returned (.tuple #[.int .i64 (m : Int), .bool t]) ∧ Pd w base g n cap a b d m w' := by
  obtain ⟨c, ec⟩ : ∃ c, b = c + 1 := ⟨b - 1, by omega⟩
  have eb : (b : Int) = (c : Int) + 1 := by omega
  rw [eb]
  have a0 : (0 : Int) ≤ (a : Int) := by omega
  have a1 : (a : Int) < 16384 := by omega
  have a2 : (a : Int) < (n : Int) := by omega
  have b0 : (0 : Int) ≤ (c : Int) := by omega
  have b1 : (c : Int) < 16384 := by omega
  have p0 : (0 : Int) ≤ (p : Int) := by omega
  have p2 : (p : Int) < (n : Int) := by omega
  have ca := h.cell (i := a) (by omega)
  have cp := h.cell (i := p) (by omega)
  have cs := h.second (i := a) (j := p) (by omega) (by omega)
  have fz := h.frozen
  clear eb
  go_enter Yba.func46, Yba.ntmps46
  go_wp2_with fail
  go_region
  go_upto_block 0 with (fail)
  go_cut [10] from 12 to 167 (fun x W => Pt w W base g n cap a b d (Q1 a 0) x (.int .i64 (c : Int)))
  case first =>
    go_wp2_with fail
    go_loopw [10] (fun x W => Pt w W base g n cap a b d (Q0 0) x (.int .i64 (c : Int))) (fun x _ => n + 1 - (intOf x).toNat)
    case atStart =>
      refine ⟨a + 1, c, swp d a p, by go_num, rfl, by omega, by omega, by omega, ((Now.start h).drewN _).swap (by omega) (by omega), (Swaps.refl _ _ _).swp (by omega) (by omega) hap hpb, fun k k1 k2 => by omega, fun k k1 k2 => by omega, Nat.zero_le _⟩
    case round =>
      obtain ⟨i, j, e, rfl, ey, hai, hij, hjb, hN, hS, h1, h2, hq⟩ := hrel
      obtain rfl : c = j := by simp only [Value.int.injEq] at ey; omega
      have i0 : (0 : Int) ≤ (i : Int) := by omega
      have H1 := hide h1
      have H2 := hide h2
      have HQ := hide hq
      clear h1 h2 hq ey
      by_cases hin : i ≤ c
      · have i1 : (i : Int) ≤ (c : Int) := by omega
        have i2 : (i : Int) < (n : Int) := by omega
        have i3 : (i : Int) < 16384 := by omega
        have c1 := hN.1.cell (i := i) (by omega)
        have c2 := hN.1.cell (i := a) (by omega)
        by_cases hl : e i < e a
        · have hd : decide (e i < e a) = true := by simpa using hl
          have HL := hide hl
          clear hl
          go_wp2_with fail
          go_quiet ((go_at_call 44; exact Calls.quiet_of_same (less_any _ _ _)))
          go_wp2
          refine ⟨⟨i + 1, c, e, by go_num, rfl, by omega, by omega, hjb, hN.drewN _, hS, fun k k1 k2 => ?_, H2.out, by have := HQ.out; simp only [Q0] at *; omega⟩, by simp [intOf]; omega⟩
          by_cases ek : k = i
          · subst ek; exact HL.out
          · exact H1.out k k1 (by omega)
        · have hd : decide (e i < e a) = false := by simpa using hl
          have HL := hide hl
          clear hl
          go_wp2_with fail
          go_quiet ((go_at_call 44; exact Calls.quiet_of_same (less_any _ _ _)))
          go_wp2
          go_meet
          case rel => exact ⟨i, c, e, rfl, rfl, hai, hij, hjb, hN.drewN _, hS, H1.out, H2.out, HQ.out, fun _ => by have := HL.out; omega⟩
      · have i1 : decide ((i : Int) ≤ (c : Int)) = false := by simp; omega
        go_wp2_with fail
        go_quiet (fail)
        go_wp2
        go_meet
        case rel => exact ⟨i, c, e, rfl, rfl, hai, hij, hjb, hN.drewN _, hS, H1.out, H2.out, HQ.out, fun h => absurd h hin⟩
  case rest =>
  clear cs ca cp fz

  obtain ⟨i₁, j₁, e₁, rfl, ey, r3, r4, r5, r6, r7, r8, r9, r10⟩ := hcut
  obtain rfl : c = j₁ := by simp only [Value.int.injEq] at ey; omega
  have hP : Pt w _ base g n cap a b d (Q1 a 0) (.int .i64 (i₁ : Int)) (.int .i64 (c : Int)) := ⟨i₁, c, e₁, rfl, rfl, r3, r4, r5, r6, r7, r8, r9, r10⟩
  clear r3 r4 r5 r6 r7 r8 r9 r10 ey
  go_upto_block 2 with (fail)
  go_cut [11] from 12 to 167 (fun y W => Pt w W base g n cap a b d (Q2 a 0) (.int .i64 (i₁ : Int)) y)
  case first =>
    go_wp2_with fail
    go_loopw [11] (fun y W => Pt w W base g n cap a b d (Q1 a 0) (.int .i64 (i₁ : Int)) y) (fun y _ => (intOf y).toNat)
    case atStart => exact hP
    case round =>
      clear hP
      obtain ⟨i, j, e, ex, rfl, hai, hij, hjb, hN, hS, h1, h2, hq⟩ := hrel
      obtain rfl : i = i₁ := by simp only [Value.int.injEq] at ex; omega
      have i0 : (0 : Int) ≤ (j : Int) := by omega
      have H1 := hide h1
      have H2 := hide h2
      have HQ := hide hq
      clear h1 h2 hq ex
      by_cases hin : i ≤ j
      · have i1 : (i : Int) ≤ (j : Int) := by omega
        have i2 : (j : Int) < (n : Int) := by omega
        have i3 : (j : Int) < 16384 := by omega
        have c1 := hN.1.cell (i := j) (by omega)
        have c2 := hN.1.cell (i := a) (by omega)
        by_cases hl : e j < e a
        · have hd : decide (e j < e a) = true := by simpa using hl
          have HL := hide hl
          clear hl
          go_wp2_with fail
          go_quiet ((go_at_call 44; exact Calls.quiet_of_same (less_any _ _ _)))
          go_wp2
          go_meet
          case rel => exact ⟨i, j, e, rfl, rfl, hai, hij, hjb, hN.drewN _, hS, H1.out, H2.out, HQ.out.1, fun h => ⟨HQ.out.2 h, HL.out⟩⟩
        · have hd : decide (e j < e a) = false := by simpa using hl
          have HL := hide hl
          clear hl
          go_wp2_with fail
          go_quiet ((go_at_call 44; exact Calls.quiet_of_same (less_any _ _ _)))
          go_wp2
          refine ⟨⟨i, j - 1, e, rfl, ?_, hai, by omega, by omega, hN.drewN _, hS, H1.out, fun k k1 k2 => ?_, HQ.out.1, fun h => HQ.out.2 (by omega)⟩, by simp [intOf]; omega⟩
          · congr 1; omega
          · by_cases ek : k = j
            · subst ek; have := HL.out; omega
            · exact H2.out k (by omega) k2
      · have i1 : decide ((i : Int) ≤ (j : Int)) = false := by simp; omega
        go_wp2_with fail
        go_quiet (fail)
        go_wp2
        go_meet
        case rel => exact ⟨i, j, e, rfl, rfl, hai, hij, hjb, hN.drewN _, hS, H1.out, H2.out, HQ.out.1, fun h => absurd h hin⟩
  case rest =>
  clear hP
  obtain ⟨i, j, e, ex, rfl, hai, hij, hjb, hN, hS, h1, h2, hq⟩ := hcut
  obtain rfl : i = i₁ := by simp only [Value.int.injEq] at ex; omega
  have H1 := hide h1
  have H2 := hide h2
  have HQ := hide hq
  clear h1 h2 hq ex
  have i0 : (0 : Int) ≤ (i : Int) := by omega
  have j0 : (0 : Int) ≤ (j : Int) := by omega
  have j2 : (j : Int) < (n : Int) := by omega
  have j3 : (j : Int) < 16384 := by omega
  have c1 := hN.1.cell (i := j) (by omega)
  have c2 := hN.1.cell (i := a) (by omega)
  have fz := hN.1.frozen
  by_cases hin : j < i

  · have hgt : (j : Int) < (i : Int) := by omega
    have cs := hN.1.second (i := j) (j := a) (by omega) (by omega)
    go_wp2_with fail
    go_region
    go_wp2
    refine bodyPost_ret (results_tmp2 rfl _ _ _) rfl ?_
    exact ⟨j, true, rfl, pd_of hb hai hij hjb (by omega) (hN.drewN _) hS H1.out H2.out⟩

  · have hgt : ¬ (j : Int) < (i : Int) := by omega
    have i2 : (i : Int) < (n : Int) := by omega
    have i3 : (i : Int) < 16384 := by omega
    have c3 := hN.1.cell (i := i) (by omega)
    have cs := hN.1.second (i := i) (j := j) (by omega) (by omega)
    go_wp2_with fail
    go_region
    go_wp2_with fail
    go_loopw [10, 11] (fun x y W => Pt w W base g n cap a b d (Q0 0) x y) (fun x _ _ => n + 1 - (intOf x).toNat)
    case atStart =>
      obtain ⟨i', j', e', r1, r2, r3, r4, r5, r6, r7, r8, r9, r10⟩ := pt_swap hb hai hjb (by omega) (hN.drewN _) hS H1.out H2.out HQ.out
      exact ⟨i', j', e', r1, r2, r3, r4, r5, r6, r7, r8, r9, Nat.zero_le _⟩
    case round =>
      clear hN hS H1 H2 HQ c1 c2 c3 cs fz i0 i2 i3 j0 j2 j3 hin hgt hai hij hjb
      obtain ⟨i₀, j₀, e₀, rfl, rfl, r3, r4, r5, r6, r7, r8, r9, r10⟩ := hrel
      have hP : Pt w _ base g n cap a b d (Q0 i₀) _ _ := ⟨i₀, j₀, e₀, rfl, rfl, r3, r4, r5, r6, r7, r8, r9, Nat.le_refl _⟩
      clear r6 r7 r8 r9 r10
      go_upto_block 6 with (fail)
      go_cut [10] from 99 to 152 (fun x W => Pt w W base g n cap a b d (Q1 a i₀) x (.int .i64 (j₀ : Int)))
      case first =>
        go_wp2_with fail
        go_loopw [10] (fun x W => Pt w W base g n cap a b d (Q0 i₀) x (.int .i64 (j₀ : Int))) (fun x _ => n + 1 - (intOf x).toNat)
        case atStart =>
          exact hP
        case round =>
          obtain ⟨i, j, e, rfl, ey, hai, hij, hjb, hN, hS, h1, h2, hq⟩ := hrel
          obtain rfl : j₀ = j := by simp only [Value.int.injEq] at ey; omega
          have i0 : (0 : Int) ≤ (i : Int) := by omega
          have H1 := hide h1
          have H2 := hide h2
          have HQ := hide hq
          clear h1 h2 hq ey
          by_cases hin : i ≤ j₀
          · have i1 : (i : Int) ≤ (j₀ : Int) := by omega
            have i2 : (i : Int) < (n : Int) := by omega
            have i3 : (i : Int) < 16384 := by omega
            have c1 := hN.1.cell (i := i) (by omega)
            have c2 := hN.1.cell (i := a) (by omega)
            by_cases hl : e i < e a
            · have hd : decide (e i < e a) = true := by simpa using hl
              have HL := hide hl
              clear hl
              go_wp2_with fail
              go_quiet ((go_at_call 44; exact Calls.quiet_of_same (less_any _ _ _)))
              go_wp2
              refine ⟨⟨i + 1, j₀, e, by go_num, rfl, by omega, by omega, hjb, hN.drewN _, hS, fun k k1 k2 => ?_, H2.out, by have := HQ.out; simp only [Q0] at *; omega⟩, by simp [intOf]; omega⟩
              by_cases ek : k = i
              · subst ek; exact HL.out
              · exact H1.out k k1 (by omega)
            · have hd : decide (e i < e a) = false := by simpa using hl
              have HL := hide hl
              clear hl
              go_wp2_with fail
              go_quiet ((go_at_call 44; exact Calls.quiet_of_same (less_any _ _ _)))
              go_wp2
              go_meet
              case rel => exact ⟨i, j₀, e, rfl, rfl, hai, hij, hjb, hN.drewN _, hS, H1.out, H2.out, HQ.out, fun _ => by have := HL.out; omega⟩
          · have i1 : decide ((i : Int) ≤ (j₀ : Int)) = false := by simp; omega
            go_wp2_with fail
            go_quiet (fail)
            go_wp2
            go_meet
            case rel => exact ⟨i, j₀, e, rfl, rfl, hai, hij, hjb, hN.drewN _, hS, H1.out, H2.out, HQ.out, fun h => absurd h hin⟩
      case rest =>
      clear hP

      obtain ⟨i₁, j₁, e₁, rfl, ey, r3, r4, r5, r6, r7, r8, r9, r10⟩ := hcut
      obtain rfl : j₀ = j₁ := by simp only [Value.int.injEq] at ey; omega
      have hP : Pt w _ base g n cap a b d (Q1 a i₀) (.int .i64 (i₁ : Int)) (.int .i64 (j₀ : Int)) := ⟨i₁, j₀, e₁, rfl, rfl, r3, r4, r5, r6, r7, r8, r9, r10⟩
      clear r3 r4 r5 r6 r7 r8 r9 r10 ey
      go_upto_block 8 with (fail)
      go_cut [11] from 99 to 152 (fun y W => Pt w W base g n cap a b d (Q2 a i₀) (.int .i64 (i₁ : Int)) y)
      case first =>
        go_wp2_with fail
        go_loopw [11] (fun y W => Pt w W base g n cap a b d (Q1 a i₀) (.int .i64 (i₁ : Int)) y) (fun y _ => (intOf y).toNat)
        case atStart => exact hP
        case round =>
          clear hP
          obtain ⟨i, j, e, ex, rfl, hai, hij, hjb, hN, hS, h1, h2, hq⟩ := hrel
          obtain rfl : i = i₁ := by simp only [Value.int.injEq] at ex; omega
          have i0 : (0 : Int) ≤ (j : Int) := by omega
          have H1 := hide h1
          have H2 := hide h2
          have HQ := hide hq
          clear h1 h2 hq ex
          by_cases hin : i ≤ j
          · have i1 : (i : Int) ≤ (j : Int) := by omega
            have i2 : (j : Int) < (n : Int) := by omega
            have i3 : (j : Int) < 16384 := by omega
            have c1 := hN.1.cell (i := j) (by omega)
            have c2 := hN.1.cell (i := a) (by omega)
            by_cases hl : e j < e a
            · have hd : decide (e j < e a) = true := by simpa using hl
              have HL := hide hl
              clear hl
              go_wp2_with fail
              go_quiet ((go_at_call 44; exact Calls.quiet_of_same (less_any _ _ _)))
              go_wp2
              go_meet
              case rel => exact ⟨i, j, e, rfl, rfl, hai, hij, hjb, hN.drewN _, hS, H1.out, H2.out, HQ.out.1, fun h => ⟨HQ.out.2 h, HL.out⟩⟩
            · have hd : decide (e j < e a) = false := by simpa using hl
              have HL := hide hl
              clear hl
              go_wp2_with fail
              go_quiet ((go_at_call 44; exact Calls.quiet_of_same (less_any _ _ _)))
              go_wp2
              refine ⟨⟨i, j - 1, e, rfl, ?_, hai, by omega, by omega, hN.drewN _, hS, H1.out, fun k k1 k2 => ?_, HQ.out.1, fun h => HQ.out.2 (by omega)⟩, by simp [intOf]; omega⟩
              · congr 1; omega
              · by_cases ek : k = j
                · subst ek; have := HL.out; omega
                · exact H2.out k (by omega) k2
          · have i1 : decide ((i : Int) ≤ (j : Int)) = false := by simp; omega
            go_wp2_with fail
            go_quiet (fail)
            go_wp2
            go_meet
            case rel => exact ⟨i, j, e, rfl, rfl, hai, hij, hjb, hN.drewN _, hS, H1.out, H2.out, HQ.out.1, fun h => absurd h hin⟩
      case rest =>
      clear hP
      obtain ⟨i, j, e, ex, rfl, hai, hij, hjb, hN, hS, h1, h2, hq⟩ := hcut
      obtain rfl : i = i₁ := by simp only [Value.int.injEq] at ex; omega
      have H1 := hide h1
      have H2 := hide h2
      have HQ := hide hq
      clear h1 h2 hq ex
      have i0 : (0 : Int) ≤ (i : Int) := by omega
      have j0 : (0 : Int) ≤ (j : Int) := by omega
      have j2 : (j : Int) < (n : Int) := by omega
      have j3 : (j : Int) < 16384 := by omega
      have c1 := hN.1.cell (i := j) (by omega)
      have c2 := hN.1.cell (i := a) (by omega)
      have fz := hN.1.frozen
      by_cases hin : j < i

      · have hgt : (j : Int) < (i : Int) := by omega
        have cs := hN.1.second (i := j) (j := a) (by omega) (by omega)
        go_wp2_with fail
        go_region
        go_wp2
        refine bodyPost_ret (results_tmp2 rfl _ _ _) rfl ?_
        exact ⟨j, false, rfl, pd_of hb hai hij hjb (by omega) (hN.drewN _) hS H1.out H2.out⟩

      · have hgt : ¬ (j : Int) < (i : Int) := by omega
        have i2 : (i : Int) < (n : Int) := by omega
        have i3 : (i : Int) < 16384 := by omega
        have c3 := hN.1.cell (i := i) (by omega)
        have cs := hN.1.second (i := i) (j := j) (by omega) (by omega)
        go_wp2_with fail
        go_region
        go_wp2
        obtain ⟨i', j', e', s1, s2, s3, s4, s5, s6, s7, s8, s9, s10⟩ := pt_swap hb hai hjb (by omega) (hN.drewN _) hS H1.out H2.out HQ.out
        refine ⟨⟨i', j', e', s1, s2, s3, s4, s5, s6, s7, s8, s9, Nat.zero_le _⟩, ?_⟩
        have := HQ.out.1
        simp [intOf]
        omega
end Go.Proofs.Ybulkfhsm.C
