/-
  The walk of the law A: its head.
-/
import Derived.Test.YbulkfhtoFmtALaw6
namespace Go.Proofs.YbulkfhtoFmt.A
open Go.RowKit Go.Extern.Stop Go.Stop Go.Extern
attribute [local go_sem ↓] Go.wp_at_zero Go.wp_at_succ

structure Qn.Ok0 (q : Qn) : Prop where
  hr : q.r.length = 16
  hc : q.c.length = 16
  hi : q.i.length = 16
  ha : q.a.length = 16
  nil : q.pa = none → q.t = []
theorem Qn.Ok0.ok {q : Qn} (h : q.Ok0) (hl : q.t.length ≤ 1048576) : q.Ok := ⟨h.hr, h.hc, h.hi, h.ha, h.nil, hl⟩
/-- What came in, whatever its lengths. -/
structure Good0 (W : World) (D : Dat) : Prop where
  lck : D.ck.length = 16
  lik : D.ik.length = 16
  wkk : (Lit.int .i64 D.kk).wf = true
  wok : (Lit.int .i64 D.ok).wf = true
  z0 : D.z0.Ok0
  x0 : Xs W D.z0.pa D.z0.t D.z0.pc
  vn : D.va = none → D.m = 0 ∧ D.vcap = 0
  vec : ∀ j, j < D.m → ∃ b off, D.va = some ⟨b, off, none⟩ ∧ W.rangeAt b (off + j * 65) (D.zs j).cells ∧ (D.zs j).Ok0 ∧ Xs W (D.zs j).pa (D.zs j).t (D.zs j).pc
theorem Good0.good {W : World} {D : Dat} (h : Good0 W D) (h0 : D.z0.t.length ≤ 1048576) (hm : D.m ≤ 1048576) (hv : ∀ j, j < D.m → (D.zs j).t.length ≤ 1048576) : Good W D :=
  ⟨h.lck, h.lik, h.wkk, h.wok, h.z0.ok h0, h.x0, h.vn, fun j hj => by
    obtain ⟨b, off, e, r, o, x⟩ := h.vec j hj
    exact ⟨b, off, e, r, o.ok (hv j hj), x⟩, hm⟩
theorem cells_x {q : Qn} (h : q.r.length = 16) : q.cells[16]? = some (.slice q.pa q.t.length q.pc) := by
  unfold Qn.cells
  rw [List.getElem?_append_right (by simp [bc_length, h])]
  simp [bc_length, h]

set_option maxRecDepth 100000 in
set_option maxHeartbeats 16000000 in
theorem law_walk {w : World} {D : Dat} (F : Interp) (hF : F.told.answers w.tape) (g : Good0 w D) :
    Calls Ybaf.prog 3 #[.int .i64 D.x, .bool D.rs, .bool D.hc, .agg (bc D.ck ++ (bc D.ik ++ [Value.int .i64 D.kk])).toArray, .bool D.ho, .agg D.z0.cells.toArray, .int .i64 D.ok, .slice D.va D.m D.vcap] w (Yes w) := by
  have m0 : (0 : Int) ≤ (D.m : Int) := by omega
  have t0 : (0 : Int) ≤ (D.z0.t.length : Int) := by omega
  obtain ⟨c11, ec⟩ : ∃ c, c = w.heap.size := ⟨_, rfl⟩
  have b11 : Blk ((w.alloc (.cells (bc D.ck ++ (bc D.ik ++ [Value.int .i64 D.kk])).toArray 24)).alloc (.cells D.z0.cells.toArray 27)) c11 24 (bc D.ck ++ (bc D.ik ++ [.int .i64 D.kk])) := by rw [ec]; exact (Blk.new w 24 _).alloc _
  have b13 : Blk ((w.alloc (.cells (bc D.ck ++ (bc D.ik ++ [Value.int .i64 D.kk])).toArray 24)).alloc (.cells D.z0.cells.toArray 27)) (c11 + 1) 27 D.z0.cells := by
    have := Blk.new (w.alloc (.cells (bc D.ck ++ (bc D.ik ++ [Value.int .i64 D.kk])).toArray 24)) 27 D.z0.cells
    rw [World.size_alloc, ← ec] at this
    exact this
  have bel : Below w.heap.size w ((w.alloc (.cells (bc D.ck ++ (bc D.ik ++ [Value.int .i64 D.kk])).toArray 24)).alloc (.cells D.z0.cells.toArray 27)) := ((Below.refl _ w).alloc (Nat.le_refl _) _).alloc (by simp) _
  go_enter Ybaf.func3, Ybaf.ntmps3
  go_upto_region 1 with (fail)
  simp only [← ec]
  generalize ((w.alloc (.cells (bc D.ck ++ (bc D.ik ++ [Value.int .i64 D.kk])).toArray 24)).alloc (.cells D.z0.cells.toArray 27)) = W at b11 b13 bel ⊢
  clear ec
  have cx : W.cell? ⟨c11 + 1, 16, none⟩ = some (.slice D.z0.pa D.z0.t.length D.z0.pc) := b13.cell (cells_x g.z0.hr)
  by_cases hbig : 1048576 < D.m
  · have hb' : (1048576 : Int) < (D.m : Int) := by omega
    go_wp2
    go_ret
    exact ⟨rfl, bel⟩
  have hb' : ¬ (1048576 : Int) < (D.m : Int) := by omega
  by_cases hb2 : 1048576 < D.z0.t.length
  · have hb2' : (1048576 : Int) < (D.z0.t.length : Int) := by omega
    go_wp2
    go_ret
    exact ⟨rfl, bel⟩
  have hb2' : ¬ (1048576 : Int) < (D.z0.t.length : Int) := by omega
  go_upto_block 0 with (fail)
  clear cx
  have hm : D.m ≤ 1048576 := by omega
  have hz : D.z0.t.length ≤ 1048576 := by omega
  have HG := hide g
  clear hbig hb' hb2 hb2' t0 g
  go_cut [17, 18] from 34 to 56 (fun _ _ W' => W' = W ∧ ∀ i, i < D.m → (D.zs i).t.length ≤ 1048576)
  case first =>
    go_wp2_with fail
    go_loopw [17, 18] (fun t y W' => ∃ (j : Nat) (s : Nat), t = .int .i64 (s : Int) ∧ y = .int .i64 (j : Int) ∧ j ≤ D.m ∧ s ≤ 4194304 ∧ (∀ i, i < j → (D.zs i).t.length ≤ 1048576) ∧ W' = W) (fun _ y _ => D.m - (intOf y).toNat)
    case atStart => exact ⟨0, 0, rfl, rfl, by omega, by omega, fun i hi => by omega, rfl⟩
    case round =>
      obtain ⟨j, s, rfl, rfl, hj, hs, hle, ew⟩ := hrel
      obtain rfl := ew.symm
      clear ew
      have HLE := hide hle
      clear hle
      have j0 : (0 : Int) ≤ (j : Int) := by omega
      have j2 : (j : Int) ≤ 1048576 := by omega
      have s0 : (0 : Int) ≤ (s : Int) := by omega
      have s1 : (s : Int) ≤ 4194304 := by omega
      by_cases hlt : j < D.m
      · have j1 : (j : Int) < (D.m : Int) := by omega
        obtain ⟨b, off, eva, hr, ho, _⟩ := HG.out.vec j hlt
        have cx : W.cell? ⟨b, off + j * 65 + 16, none⟩ = some (.slice (D.zs j).pa (D.zs j).t.length (D.zs j).pc) := by
          have := range_below hr bel 16 _ (cells_x ho.hr)
          exact this
        have EV := hide eva
        obtain ⟨tl, etl⟩ : ∃ tl : Nat, (D.zs j).t.length = tl := ⟨_, rfl⟩
        rw [etl] at cx
        have ETL := hide etl
        clear etl hr ho
        have tl0 : (0 : Int) ≤ (tl : Int) := by omega
        rw [eva]
        clear eva
        by_cases hbt : 1048576 < tl
        · have hbt' : (1048576 : Int) < (tl : Int) := by omega
          go_wp2
          go_ret
          exact ⟨rfl, bel⟩
        have hbt' : ¬ (1048576 : Int) < (tl : Int) := by omega
        have tl1 : (tl : Int) ≤ 1048576 := by omega
        obtain ⟨s', es⟩ : ∃ s' : Nat, (s : Int) + (tl : Int) = (s' : Int) := ⟨s + tl, by omega⟩
        have s2 : (s' : Int) ≤ 5242880 := by omega
        have s3 : (0 : Int) ≤ (s' : Int) := by omega
        by_cases hbs : 4194304 < s'
        · have hbs' : (4194304 : Int) < (s' : Int) := by omega
          go_wp2
          go_ret
          exact ⟨rfl, bel⟩
        have hbs' : ¬ (4194304 : Int) < (s' : Int) := by omega
        go_wp2
        refine ⟨⟨j + 1, s', rfl, by go_num, by omega, by omega, fun i hi => ?_, trivial⟩, by simp [intOf]; omega⟩
        by_cases e : i = j
        · rw [e, ETL.out]; omega
        · exact HLE.out i (by omega)
      · have j1 : ¬ (j : Int) < (D.m : Int) := by omega
        obtain rfl : j = D.m := by omega
        go_wp2
        go_meet
        case rel => exact ⟨rfl, HLE.out⟩
  case rest =>
  obtain ⟨ew, hle⟩ := hcut
  obtain rfl := ew.symm
  rename_i hK
  exact hK _ _ (part_12 F hF (HG.out.good hz hm hle) bel b11 b13)
end Go.Proofs.YbulkfhtoFmt.A
