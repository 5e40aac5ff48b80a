/-
  The walk of the law C.
-/
import Derived.Test.YbulkfhsmCWant
namespace Go.Proofs.Ybulkfhsm.C
open Go.RowKit Go.Maps
attribute [local go_sem ↓] Go.wp_at_zero Go.wp_at_succ

theorem made_hist {W : World} {lo g n : Nat} {xs : List Value} (h : W.ownsRow lo 32 3 (.slice (some ⟨g, 0, none⟩) n n) n xs) : ∃ cur, W.heap[g]? = some (.cells cur 32 (0, 0)) ∧ cur.size = n * 3 := by
  rcases h.2 with ⟨h1, _⟩ | ⟨g', cap, cur, h1, _, hh, _, _, hs, ht⟩
  · cases h1
  · cases h1
    exact ⟨cur, hh, hs⟩

theorem sl_none (w : World) : (binOp .eql 24 (.slice none 0 0) (.slice none 0 0)).run Yba.prog w = .ok (.bool true) w := by kernel_rfl
theorem sl_some (a : Addr) (n c : Nat) (w : World) : (binOp .eql 24 (.slice (some a) n c) (.slice none 0 0)).run Yba.prog w = .ok (.bool false) w := by kernel_rfl

/-- Nothing but draws. -/
structure Same (a b : World) : Prop where
  os : b.os = a.os
  tape : b.tape = a.tape
  output : b.output = a.output
  heap : b.heap = a.heap

theorem Same.refl (a : World) : Same a a := ⟨rfl, rfl, rfl, rfl⟩
theorem Same.drewN {a b : World} (h : Same a b) (k : Nat) : Same a (b.drewN k) := ⟨h.os, h.tape, h.output, h.heap⟩
theorem Same.cell {a b : World} (h : Same a b) (x : Addr) : b.cell? x = a.cell? x := World.cell?_of_block (by rw [h.heap])
theorem Same.below {B : Nat} {w a b : World} (h : Same a b) (hB : Below B w a) : Below B w b :=
  ⟨h.os.trans hB.os, h.tape.trans hB.tape, h.output.trans hB.output, by rw [h.heap]; exact hB.size, fun k hk => by rw [h.heap]; exact hB.block k hk⟩

/-- What the law answers. -/
def Yes (w : World) (e : Ending) (w' : World) : Prop := e = .returned (.bool true) ∧ Below w.heap.size w w'

set_option maxRecDepth 100000 in
set_option maxHeartbeats 16000000 in
theorem law_walk {w : World} {a : Option Addr} {len cap : Nat} {A : Nat → Opn} (h : Hist w a len A) (hlen : len ≤ maxLen) :
    Calls Yba.prog 5 #[.slice a len cap] w (Yes w) := by
  have len0 : (0 : Int) ≤ (len : Int) := by omega
  by_cases hbig : 16384 < len
  · have hb : (16384 : Int) < (len : Int) := by omega
    go_enter Yba.func5, Yba.ntmps5
    go_wp2
    go_ret
    exact ⟨rfl, Below.refl _ _⟩
  · have hb : (len : Int) ≤ 16384 := by omega
    have hb' : ¬ (16384 : Int) < (len : Int) := by omega
    obtain ⟨i32, hi, hz0, hz1, hz2⟩ := info_parts info32
    go_enter Yba.func5, Yba.ntmps5
    go_upto_region 3 with (fail)
    go_cut [3] from 15 to 156 (fun v W => v = .slice (some ⟨w.heap.size, 0, none⟩) len len ∧ Below w.heap.size w W ∧ w.heap.size < W.heap.size ∧ ∃ cur, W.heap[w.heap.size]? = some (.cells cur 32 (0, 0)) ∧ cur.size = len * 3)
    case first =>
      go_wp2_with (at_make; refine wpList_make_full _ rfl _ _ 27 rfl w.heap.size 32 i32 _ 3 Yba.underlying27 hi hz0 hz1 .i64 .i64 _ _ len rfl rfl rfl rfl (by rw [hz2]; omega) hlen (Nat.le_refl _) ?_; intro w1 hown1 hg1)
      go_meet
      case rel => exact ⟨rfl, Below.grown (Below.refl _ w) hg1 (Nat.le_refl _) (by simp), (hown1.lt _ rfl).2, made_hist hown1⟩
    case rest =>
    obtain ⟨rfl, hB1, hsz1, cur, hc1, hc2⟩ := hcut
    have h1 := h.below hB1
    have HC1 := hide hc1
    clear hc1
    go_upto_region 4 with (fail)
    go_cut [] from 15 to 156 (fun W => Below w.heap.size w W ∧ w.heap.size < W.heap.size ∧ Hist W (some ⟨w.heap.size, 0, none⟩) len A)
    case first =>
      go_wp2_with (refine wpList_copy_hist rfl _ _ rfl a w.heap.size len cap A cur rfl rfl h1 HC1.out hc2 ?_; intro w2 hr2 hB2)
      go_meet
      case rel => exact ⟨hB1.trans hB2, Nat.lt_of_lt_of_le hsz1 hB2.size, hist_of_row h hr2⟩
    case rest =>
    clear hB1 hsz1 cur hc2 HC1 h1
    obtain ⟨hB1, hsz1, hsv⟩ := hcut
    have h1 := h.below hB1
    go_upto_region 5 with (fail)
    go_wp2_with fail
    refine (trans_any h1 (by omega)).mono ?_
    rintro e w2 ⟨v, n, d, rfl, hgo, hasc, hmem, hnil, hB2, hnl⟩
    have hsv2 := hsv.below hB2
    have h2 := h1.below hB2
    have hlow : wc.heap.size ≤ w2.heap.size := hB2.size
    have HG := hide hgo
    have HA := hide hasc
    have HM := hide hmem
    have HNL := hide hnil
    have HBW : Hid (Below w.heap.size w w2) := hide (hB1.trans (hB2.mono (Nat.le_of_lt hsz1)))
    have hszw : w.heap.size ≤ w2.heap.size := by omega
    clear hgo hasc hmem hnil hB1 hB2 hsv h1
    obtain ⟨B, eB⟩ : ∃ B, B = w2.heap.size := ⟨_, rfl⟩
    have EB := hide eB
    clear eB
    generalize hsv0 : w.heap.size = sv at hsv2 hsz1 hszw HBW ⊢
    have HSV := hide hsv0
    clear hsv0
    go_upto_block 0 with (fail)
    go_cut [5, 7, 8, 9] from 25 to 81 (fun wh _ _ _ W => ∃ m dw, W.ownsRow B 25 1 wh m (rowL dw m) ∧ Below B w2 W ∧ Wants A len dw m)
    case first =>
      go_wp2_with fail
      go_loopw [5, 25] (fun wh x W => ∃ (i m : Nat) (dw : Nat → Int), x = .int .i64 (i : Int) ∧ i ≤ len ∧ W.ownsRow B 25 1 wh m (rowL dw m) ∧ Below B w2 W ∧ Wants A i dw m) (fun _ x _ => len - (intOf x).toNat)
      case atStart => exact ⟨0, 0, fun _ => 0, rfl, by omega, World.ownsRow_nil _ _ _ _, Below.refl _ _, wants_start A⟩
      case round =>
        obtain ⟨i, m, dw, rfl, hil, hown, hB, hW⟩ := hrel
        have HW := hide hW
        have mi := hW.2.2
        clear hW
        by_cases hlt : i < len
        · have i1 : (i : Int) < (len : Int) := by omega
          have i0 : (0 : Int) ≤ (i : Int) := by omega
          have hh := hsv2.below (by rw [← EB.out]; exact hB)
          have q0 := hh.ck sv 0 rfl i hlt
          have q1 := hh.ct sv 0 rfl i hlt
          have q2 := hh.co sv 0 rfl i hlt
          simp only [Nat.zero_add] at q0 q1 q2
          clear hh
          go_upto_block 1 with (fail)
          go_cut [5, 7, 8, 9] from 26 to 81 (fun wh _ _ _ W => ∃ m dw, W.ownsRow B 25 1 wh m (rowL dw m) ∧ Below B w2 W ∧ Wants A (i + 1) dw m)
          case first =>
            go_upto_block 2 with (fail)
            have hsz : w2.heap.size ≤ wr.heap.size := hB.size
            have hWt : Wt w2 (wr.alloc (.cells (A i).cells.toArray 32)) B wr.heap.size u5 m dw (A i) := ⟨hown.alloc _, hB.alloc (by rw [EB.out]; exact hsz) _, heap_alloc_new _ _, by rw [EB.out]; exact hsz⟩
            simp only [Opn.cells] at hWt
            clear q0 q1 q2
            generalize (wr.alloc (.cells [Value.int .u8 (A i).kind, .int .i32 (A i).txn, .string (A i).obj].toArray 32)) = W0 at hWt ⊢
            generalize wr.heap.size = N at hWt ⊢
            obtain ⟨wa, wcap, rfl⟩ := slice_form hWt.own
            have m0 : (m : Int) ≤ 16384 := by omega
            have m00 : (0 : Int) ≤ (m : Int) := by omega
            clear hown hB hsz
            go_cut [8] from 29 to 44 (fun v W => ∃ p : Nat, v = .int .i64 (p : Int) ∧ p ≤ m ∧ (∀ q, q < p → dw q < (A i).txn) ∧ (p < m → (A i).txn ≤ dw p) ∧ Wt w2 W B N (.slice wa m wcap) m dw (A i))
            case first =>
              go_wp2_with fail
              go_loopw [8] (fun v W => ∃ p : Nat, v = .int .i64 (p : Int) ∧ p ≤ m ∧ (∀ q, q < p → dw q < (A i).txn) ∧ Wt w2 W B N (.slice wa m wcap) m dw (A i)) (fun v _ => m - (intOf v).toNat)
              case atStart => exact ⟨0, rfl, by omega, fun q hq => by omega, hWt⟩
              case round =>
                clear hWt
                obtain ⟨p, rfl, hp, hlo, hWt⟩ := hrel
                have HLO := hide hlo
                clear hlo
                have p0 : (0 : Int) ≤ (p : Int) := by omega
                have p2 : (p : Int) ≤ 16384 := by omega
                have c2 := hWt.txn
                by_cases hpm : p < m
                · obtain ⟨g, cap', e, hg⟩ := row_form hWt.own (by omega)
                  cases e
                  have c1 := hWt.cell hpm
                  have p1 : (p : Int) < (m : Int) := by omega
                  by_cases hc : dw p < (A i).txn
                  · have hc' : decide (dw p < (A i).txn) = true := by simpa using hc
                    go_upto_region 11 with (fail)
                    go_quiet (fail)
                    go_wp2
                    refine ⟨⟨p + 1, by go_num, by omega, fun q hq => ?_, hWt.drewN _⟩, by simp [intOf]; omega⟩
                    by_cases e : q = p
                    · subst e; exact hc
                    · exact HLO.out q (by omega)
                  · have hc' : decide (dw p < (A i).txn) = false := by simpa using hc
                    go_upto_region 11 with (fail)
                    go_quiet (fail)
                    go_wp2
                    go_meet
                    case rel => exact ⟨p, rfl, hp, HLO.out, fun _ => by omega, hWt.drewN _⟩
                · have p1 : ¬ (p : Int) < (m : Int) := by omega
                  go_upto_region 11 with (fail)
                  go_quiet (fail)
                  go_wp2
                  go_meet
                  case rel => exact ⟨p, rfl, hp, HLO.out, fun _ => by omega, hWt.drewN _⟩
            case rest =>
            clear hWt
            obtain ⟨p, rfl, hp, hlo, hhi, hWt⟩ := hcut
            have HLO := hide hlo
            have HHI := hide hhi
            clear hlo hhi
            have p0 : (0 : Int) ≤ (p : Int) := by omega
            have p2 : (p : Int) ≤ 16384 := by omega
            have c2 := hWt.txn
            go_upto_region 13 with (fail)
            go_cut [56] from 44 to 60 (fun v W => (∃ t : Bool, v = .bool t ∧ (t = true ↔ p < m ∧ dw p = (A i).txn)) ∧ Wt w2 W B N (.slice wa m wcap) m dw (A i))
            case first =>
              by_cases hpm : p < m
              · obtain ⟨g, cap', e, hg⟩ := row_form hWt.own (by omega)
                cases e
                have c1 := hWt.cell hpm
                have p1 : (p : Int) < (m : Int) := by omega
                go_quiet (fail)
                go_wp2
                go_meet
                case rel => exact ⟨⟨_, rfl, by simp [hpm]⟩, hWt.drewN _⟩
              · have p1 : ¬ (p : Int) < (m : Int) := by omega
                go_quiet (fail)
                go_wp2
                go_meet
                case rel => exact ⟨⟨false, rfl, by simp [hpm]⟩, hWt.drewN _⟩
            case rest =>
            clear hWt c2
            obtain ⟨⟨t, rfl, ht⟩, hWt⟩ := hcut
            have HT := hide ht
            clear ht
            cases t
            · obtain ⟨i25, hi5, hy0, hy1, hy2⟩ := info_parts info25
              go_upto_region 14 with (fail)
              go_cut [5] from 57 to 60 (fun wh W => ∃ g cap', wh = .slice (some ⟨g, 0, none⟩) (m + 1) cap' ∧ Wt w2 W B N wh (m + 1) (put dw m 0) (A i))
              case first =>
                have hlt2 := hWt.lt
                have hbn := hWt.hB
                go_wp2_with (at_builtin; refine wpList_append_lies _ rfl _ _ 24 rfl B 25 i25 _ 1 4 Yba.underlying24 hi5 hy0 hy1 hy2 rfl (by omega) _ m (rowL dw m) rfl (by exact hWt.own.alloc _) _ 1 1 [.int .i32 0] rfl rfl (by exact World.news_of_block (heap_alloc_new _ _)) (by simp [Value.oneCell']) (by omega) (by simp only [maxLen]; omega) (by omega) (by simp only [World.size_alloc]; omega) _ rfl ?_; intro g cap' w3 hown hgrow hat hlt3)
                go_meet
                case rel => exact ⟨g, cap', rfl, hWt.append hown hgrow⟩
              case rest =>
              clear hWt
              obtain ⟨g, cap', rfl, hWt⟩ := hcut
              go_upto_block 4 with (fail)
              go_cut [9] from 63 to 76 (fun _ W => ∃ f, Shift dw m p f ∧ Wt w2 W B N (.slice (some ⟨g, 0, none⟩) (m + 1) cap') (m + 1) f (A i))
              case first =>
                go_wp2_with fail
                go_loopw [9] (fun v W => ∃ (j : Nat) (f : Nat → Int), v = .int .i64 (j : Int) ∧ p ≤ j ∧ j ≤ m ∧ Shift dw m j f ∧ Wt w2 W B N (.slice (some ⟨g, 0, none⟩) (m + 1) cap') (m + 1) f (A i)) (fun v _ => (intOf v).toNat)
                case atStart => exact ⟨m, _, by go_num, hp, by omega, shift_start dw m, hWt⟩
                case round =>
                  clear hWt
                  obtain ⟨j, f, rfl, hpj, hjm, hSh, hWt⟩ := hrel
                  have HSh := hide hSh
                  clear hSh
                  by_cases hlt : p < j
                  · obtain ⟨r, rfl⟩ : ∃ r, j = r + 1 := ⟨j - 1, by omega⟩
                    have e1 : ((r + 1 : Nat) : Int) = (r : Int) + 1 := by omega
                    rw [e1]
                    clear e1
                    have r0 : (0 : Int) ≤ (r : Int) := by omega
                    have r1 : (r : Int) < (m : Int) := by omega
                    have r2 : (p : Int) < (r : Int) + 1 := by omega
                    have r3 : (r : Int) ≤ 16384 := by omega
                    have c1 := hWt.cell (i := r) (by omega)
                    have c3 := hWt.cell (i := r + 1) (by omega)
                    have f3 := fun o => hWt.own.frozenAt (g := g) o
                    go_wp2
                    exact ⟨⟨r, _, rfl, by omega, by omega, shift_step HSh.out hjm, hWt.store (by omega) _⟩, by simp [intOf]⟩
                  · obtain rfl : j = p := by omega
                    have r2 : ¬ (j : Int) < (j : Int) := by omega
                    go_wp2
                    go_meet
                    case rel => exact ⟨f, HSh.out, hWt⟩
              case rest =>
              clear hWt
              obtain ⟨f, hSh, hWt⟩ := hcut
              have HSh := hide hSh
              clear hSh
              have c1 := hWt.cell (i := p) (by omega)
              have c2 := hWt.txn
              have f3 := fun o => hWt.own.frozenAt (g := g) o
              have p1 : (p : Int) < (m : Int) + 1 := by omega
              go_wp2
              go_meet
              case rel =>
                have hst := hWt.store (i := p) (by omega) (A i).txn
                refine ⟨m + 1, insr dw p (A i).txn, by rw [← shift_done HSh.out hp]; exact hst.own, hst.bel, wants_ins HW.out hp HLO.out (fun hpm => ?_)⟩
                have h1 := HHI.out hpm
                have h2 := HT.out
                simp at h2
                have h3 := h2 hpm
                omega
            · have hpm := HT.out.1 rfl
              go_wp2
              go_meet
              case rel => exact ⟨m, dw, hWt.own, hWt.bel, wants_skip HW.out hpm.1 hpm.2⟩
          case rest =>
          obtain ⟨m', dw', hown', hB', hW'⟩ := hcut
          clear q0 q1 q2 hown hB
          go_wp2
          exact ⟨⟨i + 1, m', dw', by go_num, by omega, hown', hB', hW'⟩, by simp [intOf]; omega⟩
        · have i1 : ¬ (i : Int) < (len : Int) := by omega
          obtain rfl : i = len := by omega
          go_wp2
          go_meet
          case rel => exact ⟨m, dw, hown, hB, HW.out⟩
    case rest =>
    rename World => W0
    obtain ⟨m, dw, hown, hB, hW⟩ := hcut
    obtain ⟨emn, heq⟩ := asc_same hW.1 HA.out (fun x => (hW.2.1 x).trans (HM.out x).symm)
    subst emn
    have HEQ := hide heq
    clear heq hW
    obtain ⟨wa, wcap, rfl⟩ := slice_form hown
    obtain ⟨va, vcap, rfl⟩ := slice_form HG.out
    have m0 : (m : Int) ≤ 16384 := by omega
    have m00 : (0 : Int) ≤ (m : Int) := by omega
    have hgot : ∀ i, i < m → ∃ g, va = some ⟨g, 0, none⟩ ∧ W0.cell? ⟨g, i, none⟩ = some (.int .i32 (dw i)) := fun i hi => by
      obtain ⟨g, cap', e, hg⟩ := row_form HG.out (by omega)
      cases e
      refine ⟨g, rfl, ?_⟩
      have hb := (HG.out.lt g rfl).2
      rw [World.cell?_of_block (a := ⟨g, i, none⟩) (hB.block g (by rw [EB.out]; exact hb)), HEQ.out i hi, World.ownsRow.cellAt HG.out i (by omega), rowL_get d hi]
    have hwant : ∀ i, i < m → ∃ g, wa = some ⟨g, 0, none⟩ ∧ W0.cell? ⟨g, i, none⟩ = some (.int .i32 (dw i)) := fun i hi => by
      obtain ⟨g, cap', e, hg⟩ := row_form hown (by omega)
      cases e
      exact ⟨g, rfl, by rw [World.ownsRow.cellAt hown i (by omega), rowL_get dw hi]⟩
    have hh3 := h2.below (by rw [← EB.out]; exact hB)
    have hs3 := hsv2.below (by rw [← EB.out]; exact hB)
    have HGOT := hide hgot
    have HWANT := hide hwant
    have HB := hide hB
    clear hgot hwant hB hown h2 hsv2
    have hnn : len ≠ 0 → m ≠ 0 := by
      intro h0 h1
      obtain ⟨p, p1, _⟩ := (HM.out (A 0).txn).2 ⟨0, by omega, rfl⟩
      omega
    go_upto_region 21 with (fail)
    go_cut [87] from 82 to 92 (fun x W => x = .bool false ∧ W = W0)
    case first =>
      by_cases h0 : len = 0
      · subst h0
        obtain rfl : m = 0 := by omega
        have e0 := HNL.out rfl
        simp only [Value.slice.injEq, true_and] at e0
        obtain ⟨rfl, rfl⟩ := e0
        have en := sl_none
        go_wp2
        clear en
        go_meet
        case rel => exact ⟨rfl, rfl⟩
      · obtain ⟨g, e, _⟩ := HGOT.out 0 (by have := hnn h0; omega)
        subst e
        have l0 : ((len : Int) == 0) = false := by simpa using h0
        have en := sl_some
        go_wp2
        clear en
        go_meet
        case rel => exact ⟨rfl, rfl⟩
    case rest =>
    clear HNL
    obtain ⟨rfl, ew⟩ := hcut
    obtain rfl := ew.symm
    go_upto_block 6 with (fail)
    go_cut [10] from 93 to 112 (fun _ W => Same W0 W)
    case first =>
      go_wp2_with fail
      go_loopw [10] (fun x W => ∃ i : Nat, x = .int .i64 (i : Int) ∧ i ≤ m ∧ Same W0 W) (fun x _ => m - (intOf x).toNat)
      case atStart => exact ⟨0, rfl, by omega, Same.refl _⟩
      case round =>
        obtain ⟨i, rfl, hi, hSm⟩ := hrel
        have i0 : (0 : Int) ≤ (i : Int) := by omega
        have i2 : (i : Int) ≤ 16384 := by omega
        by_cases hlt : i < m
        · have i1 : (i : Int) < (m : Int) := by omega
          obtain ⟨g1, e1, c1⟩ := HGOT.out i hlt
          obtain ⟨g2, e2, c2⟩ := HWANT.out i hlt
          subst e1 e2
          rw [← hSm.cell] at c1 c2
          go_upto_region 28 with (fail)
          go_quiet (fail)
          go_wp2
          exact ⟨⟨i + 1, by go_num, by omega, hSm.drewN _⟩, by simp [intOf]; omega⟩
        · have i1 : ¬ (i : Int) < (m : Int) := by omega
          go_wp2
          go_meet
          case rel => exact hSm
    case rest =>
    clear HGOT HWANT
    have HSm := hide hcut
    clear hcut
    go_upto_block 8 with (fail)
    go_cut [11] from 113 to 155 (fun _ W => Same W0 W)
    case first =>
      go_wp2_with fail
      go_loopw [11] (fun x W => ∃ i : Nat, x = .int .i64 (i : Int) ∧ i ≤ len ∧ Same W0 W) (fun x _ => len - (intOf x).toNat)
      case atStart => exact ⟨0, rfl, by omega, HSm.out⟩
      case round =>
        clear HSm
        obtain ⟨i, rfl, hi, hSm⟩ := hrel
        have i0 : (0 : Int) ≤ (i : Int) := by omega
        have i2 : (i : Int) ≤ 16384 := by omega
        by_cases hlt : i < len
        · have i1 : (i : Int) < (len : Int) := by omega
          obtain ⟨b, off, rfl⟩ := h.form (by omega)
          have q0 := hs3.ck sv 0 rfl i hlt
          have q1 := hs3.ct sv 0 rfl i hlt
          have q2 := hs3.co sv 0 rfl i hlt
          simp only [Nat.zero_add] at q0 q1 q2
          have r0 := hh3.ck b off rfl i hlt
          have r1 := hh3.ct b off rfl i hlt
          have r2 := hh3.co b off rfl i hlt
          rw [← hSm.cell] at q0 q1 q2 r0 r1 r2
          go_upto_region 35 with (fail)
          go_quiet (fail)
          go_wp2
          exact ⟨⟨i + 1, by go_num, by omega, hSm.drewN _⟩, by simp [intOf]; omega⟩
        · have i1 : ¬ (i : Int) < (len : Int) := by omega
          go_wp2
          go_meet
          case rel => exact hSm
    case rest =>
    clear HSm
    have HSm := hide hcut
    clear hcut
    go_wp2
    go_ret
    refine ⟨rfl, ?_⟩
    rw [HSV.out]
    exact HBW.out.trans (Below.mono (HSm.out.below HB.out) (by rw [EB.out]; exact hszw))
end Go.Proofs.Ybulkfhsm.C
