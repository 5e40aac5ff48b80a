/-
  nextPowerOfTwo, (xorshift).Next, breakPatternsOrdered.
-/
import Derived.Test.YbulkfhsmCIns
import Derived.Test.YbulkfhsmCShelf
import Derived.Lib.ItoaNum
import Derived.Laws.Bits64
namespace Go.Proofs.Ybulkfhsm.C
open Go.RowKit
attribute [local go_sem ↓] Go.wp_at_zero Go.wp_at_succ

theorem pow_small {k x : Nat} (hk : 1 ≤ k) (h : 2 ^ (k - 1) ≤ x) : 1 ≤ 2 ^ k ∧ 2 ^ k ≤ 2 * x := by
  obtain ⟨j, rfl⟩ : ∃ j, k = j + 1 := ⟨k - 1, by omega⟩
  simp only [Nat.add_sub_cancel] at h
  have : 1 ≤ 2 ^ j := Nat.one_le_two_pow
  rw [Nat.pow_succ]; omega

theorem pow2_any (x : Nat) (h0 : 1 ≤ x) (h1 : x ≤ 16384) (w : World) : Calls Yba.prog 58 #[.int .i64 (x : Int)] w fun e w' => (∃ m : Nat, e = .returned (.int .u64 (m : Int)) ∧ 1 ≤ m ∧ m ≤ 2 * x) ∧ w' = w := by
  have x0 : (0 : Int) ≤ (x : Int) := by omega
  have x1 : (x : Int) ≤ 16384 := by omega
  obtain ⟨b1, b2, b3⟩ := Lib.bitLenAux_bounds 64 x (by omega) (by omega)
  go_enter Yba.func58, Yba.ntmps58
  go_wp2_with (go_at_call 35; refine (Yba.bits_Len (x : Int) _ (by omega) (by omega)).mono ?_; rintro e w' ⟨rfl, rfl⟩)
  go_ret
  refine ⟨⟨2 ^ Lib.bitLen x, ?_, pow_small b1 b2⟩, rfl⟩
  have hp := pow_small b1 b2
  have hk : Lib.bitLen x < 16 := by
    refine (Nat.pow_lt_pow_iff_right (a := 2) (by omega)).mp ?_
    have := hp.2
    show 2 ^ Lib.bitLenAux 64 x < _
    omega
  have e1 : min (Lib.bitLen x) 64 = Lib.bitLen x := by omega
  have e2 : (2 : Int) ^ Lib.bitLen x = ((2 ^ Lib.bitLen x : Nat) : Int) := by simp
  have h3 : 2 ^ Lib.bitLen x ≤ 2 * x := hp.2
  rw [e1, e2, IntKind.wrap_u64]
  generalize 2 ^ Lib.bitLen x = f at h3 ⊢
  rw [show (f : Int) % 18446744073709551616 = (f : Int) by omega]
  rfl

/-- Block p holds a uint64. -/
def Rnd (W : World) (p : Nat) : Prop := (∃ v : Nat, v < 18446744073709551616 ∧ W.cell? ⟨p, 0, none⟩ = some (.int .u64 (v : Int))) ∧ ∀ o, W.frozen? ⟨p, o, none⟩ = false

theorem Rnd.store {W : World} {p : Nat} (h : Rnd W p) {v : Nat} (hv : v < 18446744073709551616) : Rnd (W.setCell ⟨p, 0, none⟩ (.int .u64 (v : Int))) p := by
  obtain ⟨⟨u, _, hu⟩, hf⟩ := h
  exact ⟨⟨v, hv, World.cell?_setCell_same _ _ _ hu⟩, fun o => by rw [World.frozen?_setCell]; exact hf o⟩

theorem grown_setCell (w : World) (a : Addr) (u : Value) : w.grownBy (w.setCell a u) (some a.block) :=
  ⟨rfl, rfl, rfl, by simp, fun k _ hk => Below.heap_setCell _ _ _ _ (fun e => hk (by rw [e]))⟩

theorem xor_some (a b : Nat) (ha : a < 18446744073709551616) (hb : b < 18446744073709551616) : ∃ v : Nat, v < 18446744073709551616 ∧ bits BinOp.xor IntKind.u64 (a : Int) (b : Int) = (v : Int) :=
  ⟨a ^^^ b, Nat.xor_lt_two_pow (n := 64) ha hb, bits_xor_u64_nat a b ha hb⟩

set_option maxRecDepth 100000 in
theorem next_any {w : World} {p : Nat} (h : Rnd w p) : Calls Yba.prog 59 #[.pointer (some ⟨p, 0, none⟩)] w fun e w' => (∃ r : Nat, e = .returned (.int .u64 (r : Int)) ∧ r < 18446744073709551616) ∧ Rnd w' p ∧ w.grownBy w' (some p) := by
  obtain ⟨⟨v, hv, hc⟩, hf⟩ := id h
  go_enter Yba.func59, Yba.ntmps59
  go_wp2_with fail
  go_cut [] from 3 to 32 (fun W => Rnd W p ∧ w.grownBy W (some p))
  case first =>
    obtain ⟨u, hu, eu⟩ := xor_some v (v * 8192 % 18446744073709551616) hv (by omega)
    have e1 : IntKind.u64.wrap ((v : Int) * 8192) = ((v * 8192 % 18446744073709551616 : Nat) : Int) := by rw [IntKind.wrap_u64]; omega
    rw [← e1] at eu
    have EU := hide eu
    clear eu e1
    go_region
    go_wp2
    go_meet
    case rel => rw [EU.out]; exact ⟨h.store hu, grown_drewN (grown_setCell _ ⟨p, 0, none⟩ _) 1⟩
  case rest =>
  clear hc hf hv
  obtain ⟨hR, hg⟩ := hcut
  obtain ⟨⟨v, hv, hc⟩, hf⟩ := id hR
  go_wp2_with fail
  go_cut [] from 3 to 32 (fun W => Rnd W p ∧ w.grownBy W (some p))
  case first =>
    obtain ⟨u, hu, eu⟩ := xor_some v (v / 128) hv (by omega)
    have e1 : ((v / 128 : Nat) : Int) = (v : Int) / 128 := by omega
    rw [e1] at eu
    have EU := hide eu
    clear eu e1
    go_region
    go_wp2
    go_meet
    case rel => rw [EU.out]; exact ⟨hR.store hu, grown_trans hg (grown_drewN (grown_setCell _ ⟨p, 0, none⟩ _) 1)⟩
  case rest =>
  clear hc hf hv hR hg
  obtain ⟨hR, hg⟩ := hcut
  obtain ⟨⟨v, hv, hc⟩, hf⟩ := id hR
  go_wp2_with fail
  go_cut [] from 3 to 32 (fun W => Rnd W p ∧ w.grownBy W (some p))
  case first =>
    obtain ⟨u, hu, eu⟩ := xor_some v (v * 131072 % 18446744073709551616) hv (by omega)
    have e1 : IntKind.u64.wrap ((v : Int) * 131072) = ((v * 131072 % 18446744073709551616 : Nat) : Int) := by rw [IntKind.wrap_u64]; omega
    rw [← e1] at eu
    have EU := hide eu
    clear eu e1
    go_region
    go_wp2
    go_meet
    case rel => rw [EU.out]; exact ⟨hR.store hu, grown_trans hg (grown_drewN (grown_setCell _ ⟨p, 0, none⟩ _) 1)⟩
  case rest =>
  clear hc hf hv hR hg
  obtain ⟨hR, hg⟩ := hcut
  obtain ⟨⟨v, hv, hc⟩, hf⟩ := id hR
  go_wp2
  go_ret
  exact ⟨⟨v, rfl, hv⟩, hR, hg⟩

theorem and_small (r m : Nat) (hr : r < 18446744073709551616) (hm : 1 ≤ m) (hm2 : m ≤ 32768) : ∃ o : Nat, o < m ∧ bits BinOp.and IntKind.u64 (r : Int) ((m : Int) - 1) = (o : Int) := by
  refine ⟨r &&& (m - 1), ?_, ?_⟩
  · have := Nat.and_le_right (n := r) (m := m - 1); omega
  · rw [show ((m : Int) - 1) = ((m - 1 : Nat) : Int) by omega]; exact bits_and_u64_nat r (m - 1) hr (by omega)

/-- The row and the random number's block, which is new. -/
def Brk (w W : World) (base g n cap p : Nat) (e : Nat → Int) : Prop := Rw W base g n cap e ∧ Rnd W p ∧ w.grownBy W (some g) ∧ w.heap.size ≤ p ∧ g ≠ p

theorem grown_new {w W W' : World} {g p : Nat} (h : w.grownBy W (some g)) (hp : w.heap.size ≤ p) (k : W.grownBy W' (some p)) : w.grownBy W' (some g) :=
  ⟨k.os.trans h.os, k.tape.trans h.tape, k.output.trans h.output, Nat.le_trans h.size k.size, fun i hi hr => (k.block i (Nat.lt_of_lt_of_le hi h.size) (fun e => by simp at e; omega)).trans (h.block i hi hr)⟩

theorem Brk.next {w W W' : World} {base g n cap p : Nat} {e : Nat → Int} (h : Brk w W base g n cap p e) (hR : Rnd W' p) (hg : W.grownBy W' (some p)) : Brk w W' base g n cap p e :=
  ⟨World.ownsRow.kept h.1 hg (.inr (by simp [Value.ownBlock]; exact fun e => h.2.2.2.2 e)), hR, grown_new h.2.2.1 h.2.2.2.1 hg, h.2.2.2.1, h.2.2.2.2⟩

theorem Rnd.kept {W W' : World} {g p : Nat} (h : Rnd W p) (hg : W.grownBy W' (some g)) (hne : g ≠ p) : Rnd W' p := by
  obtain ⟨⟨v, hv, hc⟩, hf⟩ := h
  have hb : p < W.heap.size := World.block_lt_of_cell? W _ hc
  refine ⟨⟨v, hv, hg.cell hc (by simp; exact fun e => hne e.symm)⟩, fun o => ?_⟩
  have := hg.block p hb (by simp; exact fun e => hne e.symm)
  simp only [World.frozen?] at *
  have := hf o
  simp_all

theorem Brk.swap {w W : World} {base g n cap p : Nat} {e : Nat → Int} (h : Brk w W base g n cap p e) {i j : Nat} (hi : i < n) (hj : j < n) :
    Brk w ((W.setCell ⟨g, i, none⟩ (.int .i32 (e j))).setCell ⟨g, j, none⟩ (.int .i32 (e i))) base g n cap p (swp e i j) := by
  obtain ⟨h1, h2⟩ := Now.swap (Now.start h.1) hi hj
  exact ⟨h1, h.2.1.kept h2 h.2.2.2.2, grown_trans h.2.2.1 h2, h.2.2.2.1, h.2.2.2.2⟩
theorem Brk.drewN {w W : World} {base g n cap p : Nat} {e : Nat → Int} (h : Brk w W base g n cap p e) (k : Nat) : Brk w (W.drewN k) base g n cap p e :=
  ⟨h.1, h.2.1, grown_drewN h.2.2.1 k, h.2.2.2.1, h.2.2.2.2⟩

set_option maxRecDepth 100000 in
set_option maxHeartbeats 2000000 in
theorem break_any {w : World} {base g n cap a b : Nat} {d : Nat → Int} (h : Rw w base g n cap d) (hab : a ≤ b) (hb : b ≤ n) (hn : n ≤ 16384) :
    Calls Yba.prog 40 #[.slice (some ⟨g, 0, none⟩) n cap, .int .i64 (a : Int), .int .i64 (b : Int)] w fun e w' => e = .returned (.tuple #[]) ∧ ∃ d', Now w w' base g n cap d' ∧ Swaps a b d d' := by
  obtain ⟨L, rfl⟩ : ∃ L, b = a + L := ⟨b - a, by omega⟩
  have eb : ((a + L : Nat) : Int) = (a : Int) + (L : Int) := by omega
  rw [eb]
  have es : (a : Int) + (L : Int) - (a : Int) = (L : Int) := by omega
  have a0 : (0 : Int) ≤ (a : Int) := by omega
  have a1 : (a : Int) ≤ 16384 := by omega
  have l0 : (0 : Int) ≤ (L : Int) := by omega
  have l1 : (L : Int) ≤ 16384 := by omega
  go_enter Yba.func40, Yba.ntmps40
  by_cases h8 : L < 8
  · have t1 : ¬ (8 : Int) ≤ (L : Int) := by omega
    go_wp2
    go_end0
    exact ⟨rfl, d, Now.start h, Swaps.refl _ _ _⟩
  · have t1 : (8 : Int) ≤ (L : Int) := by omega
    go_wp2_with (go_at_call 58; refine (pow2_any L (by omega) (by omega) _).mono ?_; rintro e w' ⟨⟨m, rfl, m1, m2⟩, rfl⟩)
    have hs := (World.ownsRow.lt h g rfl).2
    have hB0 : Brk w (w.alloc (.cells #[.int .u64 (L : Int)] 117)) base g n cap w.heap.size d :=
      ⟨World.ownsRow.alloc h _, ⟨⟨L, by omega, (World.cell?_alloc_new _ _ _ _).trans rfl⟩, fun o => by simp⟩, World.grownBy_alloc _ _ _, Nat.le_refl _, by omega⟩
    obtain ⟨p, hp⟩ : ∃ p, p = w.heap.size := ⟨_, rfl⟩
    rw [← hp] at hB0 ⊢
    clear hp hs
    have q1 : (L : Int) / 4 = ((L / 4 : Nat) : Int) := by omega
    have q2 : 2 ≤ L / 4 := by omega
    have q3 : L / 4 * 4 ≤ L := by omega
    rw [q1]
    generalize L / 4 = q at q1 q2 q3
    have q0 : (0 : Int) ≤ (q : Int) := by omega
    have q4 : (q : Int) ≤ 16384 := by omega
    go_loopw [9] (fun x W => ∃ (i : Nat) (e : Nat → Int), x = .int .i64 (i : Int) ∧ a < i ∧ i ≤ a + q * 2 + 2 ∧ Brk w W base g n cap p e ∧ Swaps a (a + L) d e) (fun x _ => a + q * 2 + 2 - (intOf x).toNat)
    case atStart => exact ⟨a + q * 2 - 1, d, by congr 1; omega, by omega, by omega, hB0, Swaps.refl _ _ _⟩
    clear hB0
    case round =>
    obtain ⟨i, e, rfl, hai, hi, hB, hS⟩ := hrel
    have i0 : (0 : Int) ≤ (i : Int) := by omega
    have i1 : (i : Int) ≤ 65536 := by omega
    by_cases hlt : i ≤ a + q * 2 + 1
    · have t2 : (i : Int) ≤ (a : Int) + (q : Int) * 2 + 1 := by omega
      have i2 : (i : Int) < (n : Int) := by omega
      have m0 : (1 : Int) ≤ (m : Int) := by omega
      have m3 : (m : Int) ≤ 32768 := by omega
      go_wp2_with fail
      refine (next_any hB.2.1).mono ?_
      rintro e' W2 ⟨⟨r, rfl, hr⟩, hR2, hg2⟩
      have hB2 := hB.next hR2 hg2
      obtain ⟨o, ho, eo⟩ := and_small r m hr m1 (by omega)
      have o0 : (0 : Int) ≤ (o : Int) := by omega
      have o1 : (o : Int) ≤ 32768 := by omega
      clear hB hR2 hg2
      go_upto_if 43 with (fail)
      go_cut [10] from 26 to 64 (fun x W => W = W2 ∧ ∃ o' : Nat, o' < L ∧ x = .int .i64 (o' : Int))
      case first =>
        by_cases hge : L ≤ o
        · have hd : decide (L ≤ o) = true := by simpa using hge
          go_wp2
          go_meet
          case rel => exact ⟨rfl, o - L, by omega, by congr 1; omega⟩
        · have hd : decide (L ≤ o) = false := by simpa using hge
          go_wp2
          go_meet
          case rel => exact ⟨rfl, o, by omega, rfl⟩
      case rest =>
      obtain ⟨ew, o', ho', rfl⟩ := hcut
      obtain rfl := ew.symm
      clear eo o0 o1 ho
      have o0 : (0 : Int) ≤ (o' : Int) := by omega
      have o1 : (o' : Int) ≤ 32768 := by omega
      have o2 : (a : Int) + (o' : Int) < (n : Int) := by omega
      have o3 : (0 : Int) ≤ (a : Int) + (o' : Int) := by omega
      have c1 := hB2.1.cell (i := i) (by omega)
      have c2 := hB2.1.cell (i := a + o') (by omega)
      have cs := hB2.1.second (i := i) (j := a + o') (by omega) (by omega)
      have fz := hB2.1.frozen
      go_wp2_with fail
      go_region
      go_wp2
      exact ⟨⟨i + 1, swp e i (a + o'), by go_num, by omega, by omega, (hB2.drewN 1).swap (by omega) (by omega), hS.swp (by omega) (by omega) (by omega) (by omega)⟩, by simp [intOf]; omega⟩
    · have t2 : ¬ (i : Int) ≤ (a : Int) + (q : Int) * 2 + 1 := by omega
      go_wp2
      go_end0
      exact ⟨rfl, e, ⟨hB.1, hB.2.2.1⟩, hS⟩
end Go.Proofs.Ybulkfhsm.C
