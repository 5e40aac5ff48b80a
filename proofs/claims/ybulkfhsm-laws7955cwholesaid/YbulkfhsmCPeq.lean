/-
  partitionEqualOrdered.
-/
import Derived.Test.YbulkfhsmCPart
namespace Go.Proofs.Ybulkfhsm.C
open Go.RowKit
attribute [local go_sem ↓] Go.wp_at_zero Go.wp_at_succ

/-- The pivot lies at a; what lies before i is not greater, what lies behind j is. -/
def Pe (w W : World) (base g n cap a b : Nat) (d : Nat → Int) (P : Int) (q : Nat → Nat → (Nat → Int) → Prop) (x y : Value) : Prop :=
  ∃ (i j : Nat) (e : Nat → Int), x = .int .i64 (i : Int) ∧ y = .int .i64 (j : Int) ∧ a < i ∧ i ≤ j + 1 ∧ j < b ∧ Now w W base g n cap e ∧ Swaps a b d e ∧ e a = P ∧
    (∀ k, a < k → k < i → e k ≤ e a) ∧ (∀ k, j < k → k < b → e a < e k) ∧ q i j e

def E1 (a lo i j : Nat) (e : Nat → Int) : Prop := lo ≤ i ∧ (i ≤ j → e a < e i)
def E2 (a lo i j : Nat) (e : Nat → Int) : Prop := lo ≤ i ∧ (i ≤ j → e a < e i ∧ e j ≤ e a)

theorem pe_swap {w W : World} {base g n cap a b i j : Nat} {d e : Nat → Int} {P : Int} (hb : b ≤ n) (hai : a < i) (hj : j < b) (hin : i ≤ j) (hN : Now w W base g n cap e) (hS : Swaps a b d e) (hp : e a = P)
    (h1 : ∀ k, a < k → k < i → e k ≤ e a) (h2 : ∀ k, j < k → k < b → e a < e k) {lo : Nat} (hq : E2 a lo i j e) :
    Pe w ((W.setCell ⟨g, i, none⟩ (.int .i32 (e j))).setCell ⟨g, j, none⟩ (.int .i32 (e i))) base g n cap a b d P (Q0 (lo + 1)) (.int .i64 ((i : Int) + 1)) (.int .i64 ((j : Int) - 1)) := by
  obtain ⟨q1, q2⟩ := hq.2 hin
  have hne : i ≠ j := by rintro rfl; omega
  have ea : swp e i j a = e a := swp_other e (by omega) (by omega)
  refine ⟨i + 1, j - 1, swp e i j, by go_num, ?_, by omega, by omega, by omega, hN.swap (by omega) (by omega), hS.swp (by omega) (by omega) (by omega) (by omega), ea.trans hp, fun k k1 k2 => ?_, fun k k1 k2 => ?_, by have := hq.1; simp only [Q0]; omega⟩
  · congr 1; omega
  · rw [ea]
    by_cases ek : k = i
    · subst ek; rw [swp_left]; exact q2
    · rw [swp_other e ek (by omega)]; exact h1 k k1 (by omega)
  · rw [ea]
    by_cases ek : k = j
    · subst ek; rw [swp_right]; exact q1
    · rw [swp_other e (by omega) ek]; exact h2 k (by omega) k2

set_option maxRecDepth 100000 in
set_option maxHeartbeats 4000000 in
theorem partitionEqual_any {w : World} {base g n cap a b p : Nat} {d : Nat → Int} (h : Rw w base g n cap d) (hap : a ≤ p) (hpb : p < b) (hb : b ≤ n) (hn : n ≤ 16384) :
    Calls Yba.prog 45 #[.slice (some ⟨g, 0, none⟩) n cap, .int .i64 (a : Int), .int .i64 (b : Int), .int .i64 (p : Int)] w fun e w' => ∃ m : Nat, e = .returned (.int .i64 (m : Int)) ∧ ∃ d', Now w w' base g n cap d' ∧ Swaps a b d d' ∧ a < m ∧ m ≤ b ∧ (∀ k, a ≤ k → k < m → d' k ≤ d p) ∧ ∀ k, m ≤ k → k < b → d p < d' k := by
  obtain ⟨c, ec⟩ : ∃ c, b = c + 1 := ⟨b - 1, by omega⟩
  have eb : (b : Int) = (c : Int) + 1 := by omega
  rw [eb]
  have a0 : (0 : Int) ≤ (a : Int) := by omega
  have a1 : (a : Int) < 16384 := by omega
  have a2 : (a : Int) < (n : Int) := by omega
  have b0 : (0 : Int) ≤ (c : Int) := by omega
  have b1 : (c : Int) < 16384 := by omega
  have p0 : (0 : Int) ≤ (p : Int) := by omega
  have p2 : (p : Int) < (n : Int) := by omega
  have ca := h.cell (i := a) (by omega)
  have cp := h.cell (i := p) (by omega)
  have cs := h.second (i := a) (j := p) (by omega) (by omega)
  have fz := h.frozen
  obtain ⟨P, eP⟩ : ∃ P, P = d p := ⟨_, rfl⟩
  have HP := hide eP
  clear eb eP
  go_enter Yba.func45, Yba.ntmps45
  go_wp2_with fail
  go_region
  go_wp2_with fail
  go_loopw [9, 10] (fun x y W => Pe w W base g n cap a b d P (Q0 0) x y) (fun x _ _ => n + 1 - (intOf x).toNat)
  case atStart =>
    refine ⟨a + 1, c, swp d a p, by go_num, rfl, by omega, by omega, by omega, ((Now.start h).drewN _).swap (by omega) (by omega), (Swaps.refl _ _ _).swp (by omega) (by omega) hap hpb, ?_, fun k k1 k2 => by omega, fun k k1 k2 => by omega, Nat.zero_le _⟩
    rw [swp_left, HP.out]
  case round =>
    clear ca cp cs fz
    obtain ⟨i₀, j₀, e₀, rfl, rfl, r3, r4, r5, r6, r7, r11, r8, r9, r10⟩ := hrel
    have hP : Pe w _ base g n cap a b d P (Q0 i₀) _ _ := ⟨i₀, j₀, e₀, rfl, rfl, r3, r4, r5, r6, r7, r11, r8, r9, Nat.le_refl _⟩
    clear r6 r7 r8 r9 r10 r11
    go_upto_block 2 with (fail)
    go_cut [9] from 29 to 82 (fun x W => Pe w W base g n cap a b d P (E1 a i₀) x (.int .i64 (j₀ : Int)))
    case first =>
      go_wp2_with fail
      go_loopw [9] (fun x W => Pe w W base g n cap a b d P (Q0 i₀) x (.int .i64 (j₀ : Int))) (fun x _ => n + 1 - (intOf x).toNat)
      case atStart =>
        exact hP
      case round =>
        obtain ⟨i, j, e, rfl, ey, hai, hij, hjb, hN, hS, hp, h1, h2, hq⟩ := hrel
        obtain rfl : j₀ = j := by simp only [Value.int.injEq] at ey; omega
        have i0 : (0 : Int) ≤ (i : Int) := by omega
        have HP1 := hide hp
        clear hp
        have H1 := hide h1
        have H2 := hide h2
        have HQ := hide hq
        clear h1 h2 hq ey
        by_cases hin : i ≤ j₀
        · have i1 : (i : Int) ≤ (j₀ : Int) := by omega
          have i2 : (i : Int) < (n : Int) := by omega
          have i3 : (i : Int) < 16384 := by omega
          have c1 := hN.1.cell (i := i) (by omega)
          have c2 := hN.1.cell (i := a) (by omega)
          by_cases hl : ¬ e a < e i
          · have hd : decide (e a < e i) = false := by simpa using hl
            have HL := hide hl
            clear hl
            go_wp2_with fail
            go_quiet ((go_at_call 44; exact Calls.quiet_of_same (less_any _ _ _)))
            go_wp2
            refine ⟨⟨i + 1, j₀, e, by go_num, rfl, by omega, by omega, hjb, hN.drewN _, hS, HP1.out, fun k k1 k2 => ?_, H2.out, by have := HQ.out; simp only [Q0] at *; omega⟩, by simp [intOf]; omega⟩
            by_cases ek : k = i
            · subst ek; have := HL.out; omega
            · exact H1.out k k1 (by omega)
          · have hd : decide (e a < e i) = true := by simpa using hl
            have HL := hide hl
            clear hl
            go_wp2_with fail
            go_quiet ((go_at_call 44; exact Calls.quiet_of_same (less_any _ _ _)))
            go_wp2
            go_meet
            case rel => exact ⟨i, j₀, e, rfl, rfl, hai, hij, hjb, hN.drewN _, hS, HP1.out, H1.out, H2.out, HQ.out, fun _ => by have := HL.out; omega⟩
        · have i1 : decide ((i : Int) ≤ (j₀ : Int)) = false := by simp; omega
          go_wp2_with fail
          go_quiet (fail)
          go_wp2
          go_meet
          case rel => exact ⟨i, j₀, e, rfl, rfl, hai, hij, hjb, hN.drewN _, hS, HP1.out, H1.out, H2.out, HQ.out, fun h => absurd h hin⟩
    case rest =>
    clear hP

    obtain ⟨i₁, j₁, e₁, rfl, ey, r3, r4, r5, r6, r7, r11, r8, r9, r10⟩ := hcut
    obtain rfl : j₀ = j₁ := by simp only [Value.int.injEq] at ey; omega
    have hP : Pe w _ base g n cap a b d P (E1 a i₀) (.int .i64 (i₁ : Int)) (.int .i64 (j₀ : Int)) := ⟨i₁, j₀, e₁, rfl, rfl, r3, r4, r5, r6, r7, r11, r8, r9, r10⟩
    clear r3 r4 r5 r6 r7 r11 r8 r9 r10 ey
    go_upto_block 4 with (fail)
    go_cut [10] from 29 to 82 (fun y W => Pe w W base g n cap a b d P (E2 a i₀) (.int .i64 (i₁ : Int)) y)
    case first =>
      go_wp2_with fail
      go_loopw [10] (fun y W => Pe w W base g n cap a b d P (E1 a i₀) (.int .i64 (i₁ : Int)) y) (fun y _ => (intOf y).toNat)
      case atStart => exact hP
      case round =>
        clear hP
        obtain ⟨i, j, e, ex, rfl, hai, hij, hjb, hN, hS, hp, h1, h2, hq⟩ := hrel
        obtain rfl : i = i₁ := by simp only [Value.int.injEq] at ex; omega
        have i0 : (0 : Int) ≤ (j : Int) := by omega
        have HP1 := hide hp
        clear hp
        have H1 := hide h1
        have H2 := hide h2
        have HQ := hide hq
        clear h1 h2 hq ex
        by_cases hin : i ≤ j
        · have i1 : (i : Int) ≤ (j : Int) := by omega
          have i2 : (j : Int) < (n : Int) := by omega
          have i3 : (j : Int) < 16384 := by omega
          have c1 := hN.1.cell (i := j) (by omega)
          have c2 := hN.1.cell (i := a) (by omega)
          by_cases hl : ¬ e a < e j
          · have hd : decide (e a < e j) = false := by simpa using hl
            have HL := hide hl
            clear hl
            go_wp2_with fail
            go_quiet ((go_at_call 44; exact Calls.quiet_of_same (less_any _ _ _)))
            go_wp2
            go_meet
            case rel => exact ⟨i, j, e, rfl, rfl, hai, hij, hjb, hN.drewN _, hS, HP1.out, H1.out, H2.out, HQ.out.1, fun h => ⟨HQ.out.2 h, by have := HL.out; omega⟩⟩
          · have hd : decide (e a < e j) = true := by simpa using hl
            have HL := hide hl
            clear hl
            go_wp2_with fail
            go_quiet ((go_at_call 44; exact Calls.quiet_of_same (less_any _ _ _)))
            go_wp2
            refine ⟨⟨i, j - 1, e, rfl, ?_, hai, by omega, by omega, hN.drewN _, hS, HP1.out, H1.out, fun k k1 k2 => ?_, HQ.out.1, fun h => HQ.out.2 (by omega)⟩, by simp [intOf]; omega⟩
            · congr 1; omega
            · by_cases ek : k = j
              · subst ek; have := HL.out; omega
              · exact H2.out k (by omega) k2
        · have i1 : decide ((i : Int) ≤ (j : Int)) = false := by simp; omega
          go_wp2_with fail
          go_quiet (fail)
          go_wp2
          go_meet
          case rel => exact ⟨i, j, e, rfl, rfl, hai, hij, hjb, hN.drewN _, hS, HP1.out, H1.out, H2.out, HQ.out.1, fun h => absurd h hin⟩
    case rest =>
    clear hP
    obtain ⟨i, j, e, ex, rfl, hai, hij, hjb, hN, hS, hp, h1, h2, hq⟩ := hcut
    obtain rfl : i = i₁ := by simp only [Value.int.injEq] at ex; omega
    have HP1 := hide hp
    clear hp
    have H1 := hide h1
    have H2 := hide h2
    have HQ := hide hq
    clear h1 h2 hq ex
    have i0 : (0 : Int) ≤ (i : Int) := by omega
    have j0 : (0 : Int) ≤ (j : Int) := by omega
    have j2 : (j : Int) < (n : Int) := by omega
    have j3 : (j : Int) < 16384 := by omega
    have c1 := hN.1.cell (i := j) (by omega)
    have fz := hN.1.frozen
    by_cases hin : j < i

    · have hgt : (j : Int) < (i : Int) := by omega
      go_wp2
      go_ret
      rw [← HP.out, ← HP1.out]
      refine ⟨i, rfl, e, hN, hS, hai, by omega, fun k k1 k2 => ?_, fun k k1 k2 => H2.out k (by omega) k2⟩
      by_cases ek : k = a
      · subst ek; exact Int.le_refl _
      · exact H1.out k (by omega) k2

    · have hgt : ¬ (j : Int) < (i : Int) := by omega
      have i2 : (i : Int) < (n : Int) := by omega
      have i3 : (i : Int) < 16384 := by omega
      have c3 := hN.1.cell (i := i) (by omega)
      have cs := hN.1.second (i := i) (j := j) (by omega) (by omega)
      go_wp2_with fail
      go_region
      go_wp2
      obtain ⟨i', j', e', s1, s2, s3, s4, s5, s6, s7, s11, s8, s9, s10⟩ := pe_swap hb hai hjb (by omega) (hN.drewN _) hS HP1.out H1.out H2.out HQ.out
      refine ⟨⟨i', j', e', s1, s2, s3, s4, s5, s6, s7, s11, s8, s9, Nat.zero_le _⟩, ?_⟩
      have := HQ.out.1
      simp [intOf]
      omega
end Go.Proofs.Ybulkfhsm.C
