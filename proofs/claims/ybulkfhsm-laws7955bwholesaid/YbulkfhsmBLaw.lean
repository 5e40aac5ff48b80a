/-
  The walk of the law.
-/
import Derived.Test.YbulkfhsmBLawA
import Derived.Test.YbulkfhsmBLawF
import Derived.Test.YbulkfhsmBLawI
import Derived.Test.YbulkfhsmBLawT
namespace Go.Proofs.Ybulkfhsm.B
open Go.RowKit
attribute [local go_sem ↓] Go.wp_at_zero Go.wp_at_succ

set_option maxRecDepth 100000 in
set_option maxHeartbeats 16000000 in
theorem law_walk (a : Option Addr) (len cap : Nat) (A : Nat → Step) (w : World) (hA : Script w a len A) (hm : len ≤ maxLen) :
    Calls Yba.prog 4 #[.slice a len cap] w fun e w' => e = .returned (.bool true) ∧ Below w.heap.size w w' := by
  unfold maxLen at hm
  by_cases hbig : (4096 : Int) < (len : Int)
  · go_enter Yba.func4, Yba.ntmps4
    go_wp2
    go_ret
    exact ⟨rfl, Below.refl _ _⟩
  · go_enter Yba.func4, Yba.ntmps4
    go_wp2_with fail
    refine (new_any _).mono ?_
    rintro e w1 ⟨rfl, rfl⟩
    go_wp2_with fail
    have hI := inv_start w #[.slice none 0 0, .int .i32 (-1), .int .u64 11400714819323198485] 11400714819323198485
    obtain ⟨base, hbase⟩ : ∃ b, b = w.heap.size := ⟨_, rfl⟩
    rw [← hbase] at hI ⊢
    have HB := hide hbase
    clear hbase
    rw [show base + 1 + 1 = base + 2 from rfl, show base + 2 + 1 = base + 3 from rfl, show base + 3 + 1 = base + 4 from rfl]
    go_loopw [29] (fun x W => ∃ i : Nat, i ≤ len ∧ x = .int .i64 i ∧ Inv w W base i) (fun x _ => len - (intOf x).toNat)
    case atStart => exact ⟨0, by omega, rfl, hI⟩
    clear hI
    case round =>
      obtain ⟨i, hi, rfl, hI⟩ := hrel
      by_cases hlt : i < len
      · obtain ⟨hdr, n, ns, fr, t, vp, vx, mp, mx, l, fl, hM, hS, hn, hml⟩ := hI
        obtain ⟨b, off, rfl⟩ := hA.some (by omega)
        have bw : b < w.heap.size := World.block_lt_of_cell? w _ (hA.c0 b off rfl i hlt)
        have hbl := hM.below
        have hbb := HB.out
        have d0 : wr.cell? ⟨b, off + i * 6, none⟩ = some (.int .u8 (A i).op) := (hbl.cell (by show b < base; omega)).trans (hA.c0 b off rfl i hlt)
        have d1 : wr.cell? ⟨b, off + i * 6 + 1, none⟩ = some (.int .u16 (A i).place) := (hbl.cell (by show b < base; omega)).trans (hA.c1 b off rfl i hlt)
        have d2 : wr.cell? ⟨b, off + i * 6 + 2, none⟩ = some (.int .i32 (A i).txn) := (hbl.cell (by show b < base; omega)).trans (hA.c2 b off rfl i hlt)
        have d3 : wr.cell? ⟨b, off + i * 6 + 3, none⟩ = some (.int .i32 (A i).name) := (hbl.cell (by show b < base; omega)).trans (hA.c3 b off rfl i hlt)
        have d4 : wr.cell? ⟨b, off + i * 6 + 4, none⟩ = some (.bool (A i).excl) := (hbl.cell (by show b < base; omega)).trans (hA.c4 b off rfl i hlt)
        have d5 : wr.cell? ⟨b, off + i * 6 + 5, none⟩ = some (.bool (A i).set) := (hbl.cell (by show b < base; omega)).trans (hA.c5 b off rfl i hlt)
        have g1 : (0 : Int) ≤ (i : Int) := by omega
        have g2 : (i : Int) < (len : Int) := by omega
        obtain ⟨op0, op1⟩ := hA.op0 i hlt
        obtain ⟨pl0, pl1⟩ := hA.pl0 i hlt
        generalize hop : (A i).op = op at d0 op0 op1
        generalize hpl : (A i).place = pl at d1 pl0 pl1
        generalize htx : (A i).txn = tx at d2
        generalize hnm : (A i).name = nm at d3
        generalize hex : (A i).excl = ex at d4
        generalize hse : (A i).set = se at d5
        clear hop hpl htx hnm hex hse hbb
        go_upto_if 34 with (fail)
        obtain ⟨N, eN⟩ : ∃ y : Nat, y = wr.heap.size := ⟨_, rfl⟩
        obtain ⟨W1, e1⟩ : ∃ y : World, y = wr.alloc (.cells #[.int .u8 op, .int .u16 pl, .int .i32 tx, .int .i32 nm, .bool ex, .bool se] 62) := ⟨_, rfl⟩
        have hM1 : Mem w W1 base hdr n ns fr t vp vx mp mx := by rw [e1]; exact hM.alloc _
        have sb : Sb W1 N base hdr vp vx op pl tx nm ex := by
          refine ⟨?_, ?_, ?_, ?_, ?_, ?_, ?_, ?_⟩
          · rw [e1, eN]; simp
          · rw [e1, eN]; simp
          · rw [e1, eN]; simp
          · rw [e1, eN]; simp
          · rw [e1, eN]; simp
          · have := hM.size; omega
          · rw [e1, eN]; simp
          · intro j hj g hg; have := (hM.rowBound j hj g hg).2; omega
        rw [← e1, ← eN]
        clear e1 eN d0 d1 d2 d3 d4 d5 hM hbl
        go_cut [9] from 30 to 172 (fun x W => (∃ k : Nat, k < 2 ∧ x = .int .i64 (k : Int)) ∧ W = W1)
        case first =>
          cases se
          all_goals
            go_wp2
            go_meet
            case rel => first | exact ⟨⟨0, by omega, rfl⟩, rfl⟩ | exact ⟨⟨1, by omega, rfl⟩, rfl⟩
        case rest =>
        obtain ⟨⟨k, hk, rfl⟩, ew⟩ := hcut
        obtain rfl := ew.symm
        have k1 : (0 : Int) ≤ (k : Int) := by omega
        have k2 : (k : Int) < 2 := by omega
        go_upto_region 13 with (fail)
        go_cut [45] from 30 to 172 (fun x W => x = .bool (decide (op % 3 = 2 ∧ 0 < (mp k).length)) ∧ W = W1)
        case first =>
          have c0 := sb.c0
          obtain ⟨ap, cp, evp⟩ := row_form' (hM1.mpo k hk)
          have m3 := hM1.mpc k hk
          rw [evp] at m3
          by_cases h1 : op % 3 = 2
          · have hd1 : (op % 3 == 2) = true := by simpa using h1
            by_cases h2 : 0 < (mp k).length
            · have hd2 : (0 : Int) < ((mp k).length : Int) := by omega
              have HC : Hid (decide (op % 3 = 2 ∧ 0 < (mp k).length) = true) := decide_eq_true ⟨h1, h2⟩
              clear h1 h2
              go_wp2
              go_meet
              case rel => rw [HC.out]; exact ⟨congrArg Value.bool (decide_eq_true (by omega)), rfl⟩
            · have hd2 : ((mp k).length : Int) = 0 := by omega
              have HC : Hid (decide (op % 3 = 2 ∧ 0 < (mp k).length) = false) := decide_eq_false fun h => h2 h.2
              clear h1 h2
              go_wp2
              go_meet
              case rel => rw [HC.out]; exact ⟨rfl, rfl⟩
          · have hd1 : (op % 3 == 2) = false := by simpa using h1
            have HC : Hid (decide (op % 3 = 2 ∧ 0 < (mp k).length) = false) := decide_eq_false fun h => h1 h.1
            clear h1
            go_wp2
            go_meet
            case rel => rw [HC.out]; exact ⟨rfl, rfl⟩
        case rest =>
        obtain ⟨rfl, ew⟩ := hcut
        obtain rfl := ew.symm
        generalize hcnd : decide (op % 3 = 2 ∧ 0 < (mp k).length) = cnd
        go_upto_if 45 with (fail)
        go_cut [] from 30 to 172 (fun W => W = W1)
        case first =>
          cases cnd
          · clear hcnd
            go_wp2
            go_meet
            case rel => rfl
          · have hcc := of_decide_eq_true hcnd
            clear hcnd
            refine wp_cond_true rfl (wp_QE (case_A pl0 pl1 hM1 hS sb hn hml hk hcc.2 ?_))
            intros
            rename_i hI
            go_wp2
            exact ⟨⟨i + 1, by omega, by go_num, hI⟩, by simp [intOf]; omega⟩
        case rest =>
        obtain rfl := hcut.symm
        clear hcnd

        have c1 := sb.c1
        obtain ⟨ap, cp, evp⟩ := row_form' (hM1.mpo k hk)
        have m3 := hM1.mpc k hk
        rw [evp] at m3
        have hlk : ((mp k).length : Int) ≤ 4096 := by have := hml k hk; omega
        go_upto_block 2 with (fail)
        go_cut [12] from 30 to 172 (fun x W => W = W1 ∧ ((∃ j : Nat, ∃ hj : j < (mp k).length, x = .int .i64 (j : Int) ∧ (mp k)[j] = pl) ∨ x = .int .i64 (-1) ∧ pl ∉ mp k))
        case first =>
          go_wp2_with fail
          go_loopw [12, 13] (fun x y W => W = W1 ∧ x = .int .i64 (-1) ∧ ∃ q : Nat, q ≤ (mp k).length ∧ y = .int .i64 (q : Int) ∧ ∀ (r : Nat) (hr : r < (mp k).length), r < q → (mp k)[r] ≠ pl) (fun _ y _ => (mp k).length - (intOf y).toNat)
          case atStart => exact ⟨rfl, rfl, 0, by omega, rfl, fun r _ h => by omega⟩
          case round =>
            obtain ⟨ew, rfl, q, hq, rfl, hno⟩ := hrel
            obtain rfl := ew.symm
            have HNO := hide hno
            clear hno
            by_cases hql : q < (mp k).length
            · obtain ⟨g, rfl⟩ : ∃ g, ap = some ⟨g, 0, none⟩ := by
                rcases (hM1.mpo k hk).2 with ⟨e, e'⟩ | ⟨g, cap, cur, e, _⟩
                · omega
                · rw [evp] at e; simp only [Value.slice.injEq] at e; exact ⟨g, e.1⟩
              have cg : W1.cell? ⟨g, q, none⟩ = some (.int .i64 (mp k)[q]) := by
                have h1 := hM1.mpo k hk
                rw [evp] at h1
                rw [h1.cellAt q (by omega), List.getElem?_map, List.getElem?_eq_getElem hql]; rfl
              generalize hx : (mp k)[q] = x at cg
              have HX := hide hx
              clear hx evp
              have q1 : (0 : Int) ≤ (q : Int) := by omega
              have q2 : (q : Int) < ((mp k).length : Int) := by omega
              by_cases hxp : x = pl
              · have hd : (x == pl) = true := by simpa using hxp
                have HXP := hide hxp
                clear hxp
                go_wp2
                go_meet
                case rel => exact ⟨rfl, .inl ⟨q, hql, rfl, HX.out.trans HXP.out⟩⟩
              · have hd : (x == pl) = false := by simpa using hxp
                have HXP := hide hxp
                clear hxp
                go_wp2
                refine ⟨⟨by trivial, rfl, q + 1, by omega, by go_num, fun r hr hrq => ?_⟩, by simp [intOf]; omega⟩
                by_cases e : r = q
                · subst e; rw [HX.out]; exact HXP.out
                · exact HNO.out r hr (by omega)
            · clear evp
              go_wp2
              go_meet
              case rel =>
                refine ⟨rfl, .inr ⟨rfl, fun hp => ?_⟩⟩
                obtain ⟨r, hr, e⟩ := List.getElem_of_mem hp
                exact HNO.out r hr (by omega) e
        case rest =>
        obtain ⟨ew, hfound⟩ := hcut
        obtain rfl := ew.symm
        clear evp m3
        rcases hfound with ⟨j, hj, rfl, hjp⟩ | ⟨rfl, hnew⟩
        · have hge : (0 : Int) ≤ (j : Int) := by omega
          go_upto_if 112 with (fail)
          refine wp_cond_true rfl (wp_QE (case_F hM1 hS sb hn hml hk hj hjp ?_))
          intros
          rename_i hI
          go_wp2
          exact ⟨⟨i + 1, by omega, by go_num, hI⟩, by simp [intOf]; omega⟩
        · have hneg : ¬ (0 : Int) ≤ -1 := by omega
          go_upto_if 112 with (fail)
          rename_i hK
          refine wp_cond_false rfl (wp_skip (hK _ _ (wp_QN (case_I pl0 pl1 hM1 hS sb hn hml hk (by omega) hnew ?_))))
          intros
          rename_i hI
          go_wp2
          exact ⟨⟨i + 1, by omega, by go_num, hI⟩, by simp [intOf]; omega⟩
      · have g1 : ¬ (i : Int) < (len : Int) := by omega
        go_upto_if 30 with (fail)
        refine wp_cond_false rfl (wp_exit ?_)
        go_step
        go_step
        go_step
        go_step
        exact case_T HB (by omega) hI
end Go.Proofs.Ybulkfhsm.B
