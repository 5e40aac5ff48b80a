/-
  bytes.Equal, zzs7957aquin, zzs7957asame.
-/
import Derived.Test.YbulkfhtoFmtALine
import Derived.Test.YbulkfhtoFmtAHex
import Derived.Laws.IdiomStrings
import Derived.ChangeKeysEq
import Derived.Laws.StructEq
namespace Go.Proofs.YbulkfhtoFmt.A
open Go.RowKit Go.Extern
attribute [local go_sem ↓] Go.wp_at_zero Go.wp_at_succ

theorem toStr {W : World} {pa : Option Addr} {t : List UInt8} {pc : Nat} (h : Xs W pa t pc) : (convert 25 9 (.slice pa t.length pc)).run Ybaf.prog W = .ok (.string ⟨t.toArray⟩) W := by
  cases hp : pa with
  | none =>
    obtain ⟨rfl, rfl⟩ := h.nil hp
    kernel_rfl
  | some x => exact run_convert_bytes_back W 25 9 5 x pc t Ybaf.underlying25 Ybaf.underlying5 Ybaf.underlying9 (fun j hj => h.cell x hp j _ (bc_get t hj))

set_option maxRecDepth 100000 in
set_option maxHeartbeats 4000000 in
theorem equal_any {W : World} {pa pb : Option Addr} {t : List UInt8} {pc pd : Nat} (h1 : Xs W pa t pc) (h2 : Xs W pb t pd) :
    Calls Ybaf.prog 10 #[.slice pa t.length pc, .slice pb t.length pd] W fun e w' => e = .returned (.bool true) ∧ w' = W := by
  have q1 := toStr h1
  have q2 := toStr h2
  go_enter Ybaf.func10, Ybaf.ntmps10
  go_wp2
  go_ret
  exact ⟨by simp, rfl⟩

theorem Xs.keptB {W W' : World} {pa : Option Addr} {t : List UInt8} {pc : Nat} {row : Option Nat} (h : Xs W pa t pc) (hg : W.grownBy W' row) (hne : ∀ x, pa = some x → 0 < t.length → some x.block ≠ row) : Bytes W' pa t :=
  ⟨h.bytes.form, fun b off e i hi => hg.cell (h.bytes.cell b off e i hi) (hne ⟨b, off, none⟩ e (by omega))⟩
theorem bytes_range {w : World} {g o : Nat} {l : List UInt8} (h : w.rangeAt g o (bc l)) : Bytes w (some ⟨g, o, none⟩) l :=
  ⟨fun _ => ⟨g, o, rfl⟩, fun b off e i hi => by cases e; exact h i _ (bc_get l hi)⟩

set_option maxRecDepth 100000 in
set_option maxHeartbeats 8000000 in
theorem quin_any {W : World} {B : Nat} {v : Value} {l : List UInt8} {q : Qn} (hr : Row W B v l) (hB : B ≤ W.heap.size) (hlen : l.length ≤ 35184372088832) (hq : q.Ok) (hs : Xs W q.pa q.t q.pc) (hx : ∀ x, q.pa = some x → 0 < q.t.length → x.block < B) :
    Calls Ybaf.prog 9 #[v, .agg q.cells.toArray] W (Left W B v l (tQuin q.r q.t q.c q.i q.a)) := by
  have hql := hq.len
  have k1 := hq.hr
  have k2 := hq.hc
  have k3 := hq.hi
  have k4 := hq.ha
  obtain ⟨g, eg⟩ : ∃ g, g = W.heap.size := ⟨_, rfl⟩
  have hb1 : Blk (W.alloc (.cells q.cells.toArray 27)) g 27 q.cells := by rw [eg]; exact Blk.new W 27 q.cells
  have hg1 := World.grownBy_alloc W (.cells q.cells.toArray 27) none
  have EG := hide eg
  go_enter Ybaf.func9, Ybaf.ntmps9
  go_upto_region 1 with (fail)
  rw [← eg]
  clear eg
  generalize (W.alloc (.cells q.cells.toArray 27)) = w1 at hb1 hg1 ⊢
  have hr1 := hr.grown hg1
  have hs1 := hs.grown hg1
  have gr0 : w1.grownBy w1 v.ownBlock := grown_refl _ _
  have hgv : some g ≠ v.ownBlock := fun e => by have := (hr.lt _ e.symm).2; have := EG.out; omega
  have hxv : ∀ x, q.pa = some x → 0 < q.t.length → some x.block ≠ v.ownBlock := fun x e h0 e' => by have := hx x e h0; have := (hr.lt _ e'.symm).1; omega
  go_wp2_with fail
  have cl1 := hex_any (c := 16) hr1 (bytes_range (Qn.rr (hb1.kept gr0 hgv))) (fun b off e _ => by cases e; exact Own.ne (Own.refl w1 v) hb1.lt hgv) (by omega) (Nat.le_trans hB (Nat.le_trans hg1.size gr0.size))
  rw [hq.hr] at cl1
  refine cl1.mono ?_
  rintro e w1a ⟨v1a, rfl, hr1a, hg1a, ho1a⟩
  have gr1a := (Own.refl w1 v).grown gr0 hg1a
  have ow1a := (Own.refl w1 v).trans gr0.size ho1a
  go_upto_region 3 with (at_builtin; refine app_sl (v := v1a) rfl _ _ rfl rfl (hr1a.alloc _) [32] _ _ rfl (lies_new _ _ _) (by simp only [List.length_append, List.length_cons, List.length_nil, FmtText.hexOf_length]; omega) (Nat.le_trans hB (Nat.le_trans hg1.size (Nat.le_trans gr1a.size (by simp)))) ?_; intro v1b w1b hr1b hg1b hn1b ho1b)
  have gr1b := ow1a.grown gr1a (grown_made hg1b)
  have ow1b := ow1a.trans gr1a.size (Own.more ho1b (by simp))
  have xc2 := Qn.rx hq (hb1.kept gr1b hgv)
  go_wp2_with fail
  clear xc2
  refine (hex_any hr1b (hs1.keptB gr1b hxv) (fun b off e h0 e' => by have := hx _ e h0; have := (hr1b.lt _ e'.symm).1; simp at *; omega) (by simp only [List.length_append, List.length_cons, List.length_nil, FmtText.hexOf_length]; omega) (Nat.le_trans hB (Nat.le_trans hg1.size gr1b.size))).mono ?_
  rintro e w2a ⟨v2a, rfl, hr2a, hg2a, ho2a⟩
  have gr2a := ow1b.grown gr1b hg2a
  have ow2a := ow1b.trans gr1b.size ho2a
  go_upto_region 5 with (at_builtin; refine app_sl (v := v2a) rfl _ _ rfl rfl (hr2a.alloc _) [32] _ _ rfl (lies_new _ _ _) (by simp only [List.length_append, List.length_cons, List.length_nil, FmtText.hexOf_length]; omega) (Nat.le_trans hB (Nat.le_trans hg1.size (Nat.le_trans gr2a.size (by simp)))) ?_; intro v2b w2b hr2b hg2b hn2b ho2b)
  have gr2b := ow2a.grown gr2a (grown_made hg2b)
  have ow2b := ow2a.trans gr2a.size (Own.more ho2b (by simp))
  go_wp2_with fail
  have cl3 := hex_any (c := 16) hr2b (bytes_range (Qn.rc hq (hb1.kept gr2b hgv))) (fun b off e _ => by cases e; exact Own.ne ow2b hb1.lt hgv) (by simp only [List.length_append, List.length_cons, List.length_nil, FmtText.hexOf_length]; omega) (Nat.le_trans hB (Nat.le_trans hg1.size gr2b.size))
  rw [hq.hc] at cl3
  refine cl3.mono ?_
  rintro e w3a ⟨v3a, rfl, hr3a, hg3a, ho3a⟩
  have gr3a := ow2b.grown gr2b hg3a
  have ow3a := ow2b.trans gr2b.size ho3a
  go_upto_region 7 with (at_builtin; refine app_sl (v := v3a) rfl _ _ rfl rfl (hr3a.alloc _) [32] _ _ rfl (lies_new _ _ _) (by simp only [List.length_append, List.length_cons, List.length_nil, FmtText.hexOf_length]; omega) (Nat.le_trans hB (Nat.le_trans hg1.size (Nat.le_trans gr3a.size (by simp)))) ?_; intro v3b w3b hr3b hg3b hn3b ho3b)
  have gr3b := ow3a.grown gr3a (grown_made hg3b)
  have ow3b := ow3a.trans gr3a.size (Own.more ho3b (by simp))
  go_wp2_with fail
  have cl4 := hex_any (c := 16) hr3b (bytes_range (Qn.ri hq (hb1.kept gr3b hgv))) (fun b off e _ => by cases e; exact Own.ne ow3b hb1.lt hgv) (by simp only [List.length_append, List.length_cons, List.length_nil, FmtText.hexOf_length]; omega) (Nat.le_trans hB (Nat.le_trans hg1.size gr3b.size))
  rw [hq.hi] at cl4
  refine cl4.mono ?_
  rintro e w4a ⟨v4a, rfl, hr4a, hg4a, ho4a⟩
  have gr4a := ow3b.grown gr3b hg4a
  have ow4a := ow3b.trans gr3b.size ho4a
  go_upto_region 9 with (at_builtin; refine app_sl (v := v4a) rfl _ _ rfl rfl (hr4a.alloc _) [32] _ _ rfl (lies_new _ _ _) (by simp only [List.length_append, List.length_cons, List.length_nil, FmtText.hexOf_length]; omega) (Nat.le_trans hB (Nat.le_trans hg1.size (Nat.le_trans gr4a.size (by simp)))) ?_; intro v4b w4b hr4b hg4b hn4b ho4b)
  have gr4b := ow4a.grown gr4a (grown_made hg4b)
  have ow4b := ow4a.trans gr4a.size (Own.more ho4b (by simp))
  go_wp2_with fail
  have cl5 := hex_any (c := 16) hr4b (bytes_range (Qn.ra hq (hb1.kept gr4b hgv))) (fun b off e _ => by cases e; exact Own.ne ow4b hb1.lt hgv) (by simp only [List.length_append, List.length_cons, List.length_nil, FmtText.hexOf_length]; omega) (Nat.le_trans hB (Nat.le_trans hg1.size gr4b.size))
  rw [hq.ha] at cl5
  refine cl5.mono ?_
  rintro e w5a ⟨v5a, rfl, hr5a, hg5a, ho5a⟩
  have gr5a := ow4b.grown gr4b hg5a
  have ow5a := ow4b.trans gr4b.size ho5a
  go_wp2
  go_ret
  refine ⟨_, rfl, ?_, grown_first hg1 gr5a, ow5a.older hg1.size⟩
  simpa [tQuin] using hr5a


theorem part5 (l : List UInt8) (i : Nat) (hi : i < l.length) (w : World) : (part 5 (bc l).toArray (i * Ybaf.prog.cellsOf 5)).run Ybaf.prog w = .ok (.int .u8 ((l[i]'hi).toNat : Int)) w := by
  have hc : Ybaf.prog.cellsOf 5 = 1 := by kernel_rfl
  have h1 : (isAgg 5).run Ybaf.prog w = .ok false w := by kernel_rfl
  have hg : (bc l)[i]? = some (.int .u8 ((l[i]'hi).toNat : Int)) := bc_get l hi
  rw [hc]
  simp [part, h1, hg]
theorem eq5 (d : Nat) (x : Int) (w : World) : (Op.equalIn (d + 1) 5 (.int .u8 x) (.int .u8 x)).run Ybaf.prog w = .ok true w := by
  simp [Op.equalIn, run_underlying Ybaf.underlying5]
theorem items (d : Nat) (l : List UInt8) (w : World) : ∀ is : List Nat, (∀ i ∈ is, i < l.length) → (Op.eqItems (d + 1) 5 (Ybaf.prog.cellsOf 5) (bc l).toArray (bc l).toArray is).run Ybaf.prog w = .ok true w
  | [], _ => by simp [Op.eqItems]
  | i :: is, h => by
    have ih := items d l w is (fun j hj => h j (by simp [hj]))
    have hp := part5 l i (h i (by simp)) w
    simp only [Op.eqItems, Sem.run_bind, hp, eq5, Result.andThen_ok, Bool.not_true, Bool.false_eq_true, if_false, ih]
theorem neq22 (l : List UInt8) (h : l.length = 16) (w : World) : (binOp .neq 22 (.agg (bc l).toArray) (.agg (bc l).toArray)).run Ybaf.prog w = .ok (.bool false) w := by
  obtain ⟨i, e1, _⟩ := info_parts info5
  rw [run_neq_struct, run_equalIn_array w 9999 _ _ Ybaf.underlying22 e1, items 9998 l w _ (fun i hi => by rw [h]; simpa using hi)]
  rfl
theorem eqg22 (l : List UInt8) (x y : Operand) (w : World) : (eqGuard .neq 22 x y (.agg (bc l).toArray) (.agg (bc l).toArray)).run Ybaf.prog w = .ok () w := by
  have h : Ybaf.prog.eqGuardType Ybaf.prog.depth 22 = false := by kernel_rfl
  simp [eqGuard, h]
theorem eq25o {pa : Option Addr} {t : List UInt8} {pc : Nat} (h : pa = none → t = [] ∧ pc = 0) (w : World) : (binOp .eql 25 (.slice pa t.length pc) (.slice none 0 0)).run Ybaf.prog w = .ok (.bool (decide (pa = none))) w := by
  cases pa with
  | none =>
    obtain ⟨rfl, rfl⟩ := h rfl
    exact eq25n w
  | some x => exact eq25s x _ _ w
section
variable {ops : Array Oper} {rest : List Oper} {op : Oper} {a : Act} {w : World} {Q : Exit → Act → World → Prop}
theorem wpList_load_g (hw : Region.wanted op (yielded ops a.tmps) = true) (ty : TypeId) (x : Operand) (ho : op.op = .load ty x)
    (b o : Nat) (hx : a.eval x = .pointer (some ⟨b, o, none⟩)) (cs : List Value) (d : TypeDesc) (hc : w.rangeAt b o cs)
    (hu : Ybaf.prog.underlying ty = some d) (hd : d.isRow = true) (hi : (Ybaf.prog.info? ty).map (·.size) = some cs.length)
    (h : wpList Ybaf.prog ops Q rest (a.put op.dst (.agg cs.toArray)) w) : wpList Ybaf.prog ops Q (op :: rest) a w :=
  wpList_step fun K hK => by
    rw [if_pos hw]
    exact wp_load_mid ty x ho b o hx cs d hc hu hd hi (hK _ _ h)
theorem wpList_neq_g (hw : Region.wanted op (yielded ops a.tmps) = true) (x y : Operand) (t : TypeId) (ho : op.op = .binOp .neq 22 x y t) (l : List UInt8) (hl : l.length = 16)
    (hx : a.eval x = .agg (bc l).toArray) (hy : a.eval y = .agg (bc l).toArray) (h : wpList Ybaf.prog ops Q rest (a.put op.dst (.bool false)) w) : wpList Ybaf.prog ops Q (op :: rest) a w :=
  wpList_step fun K hK => by
    rw [if_pos hw]
    unfold Oper.wp execOp
    simp only [ho, hx, hy, Sem.run_bind, eqg22 l, neq22 l hl, Result.andThen_ok, Sem.run_pure]
    exact hK _ _ h
end

set_option maxRecDepth 100000 in
set_option maxHeartbeats 8000000 in
theorem same_any {W : World} {q : Qn} {pb : Option Addr} {pd : Nat} (hq : q.Ok) (hx : Xs W q.pa q.t q.pc) (hy : Xs W pb q.t pd) (hn : q.pa = none ↔ pb = none) :
    Calls Ybaf.prog 11 #[.agg q.cells.toArray, .agg ({ q with pa := pb, pc := pd } : Qn).cells.toArray] W fun e w' => e = .returned (.bool true) ∧ Below W.heap.size W w' := by
  obtain ⟨z, ez⟩ : ∃ z : Qn, z = { q with pa := pb, pc := pd } := ⟨_, rfl⟩
  rw [← ez]
  have hz : z.Ok := by rw [ez]; exact ⟨hq.hr, hq.hc, hq.hi, hq.ha, fun e => hq.nil (hn.2 e), hq.len⟩
  obtain ⟨g, eg⟩ : ∃ g, g = W.heap.size := ⟨_, rfl⟩
  have hb1 : Blk ((W.alloc (.cells q.cells.toArray 36)).alloc (.cells z.cells.toArray 27)) g 36 q.cells := by rw [eg]; exact (Blk.new W 36 q.cells).alloc _
  have hb2 : Blk ((W.alloc (.cells q.cells.toArray 36)).alloc (.cells z.cells.toArray 27)) (g + 1) 27 z.cells := by
    have := Blk.new (W.alloc (.cells q.cells.toArray 36)) 27 z.cells
    rw [World.size_alloc, ← eg] at this
    exact this
  have hbel : Below W.heap.size W ((W.alloc (.cells q.cells.toArray 36)).alloc (.cells z.cells.toArray 27)) := ((Below.refl _ W).alloc (Nat.le_refl _) _).alloc (by simp) _
  have EZ := hide ez
  clear ez
  go_enter Ybaf.func11, Ybaf.ntmps11
  go_upto_region 1 with (fail)
  simp only [← eg]
  generalize ((W.alloc (.cells q.cells.toArray 36)).alloc (.cells z.cells.toArray 27)) = w2 at hb1 hb2 hbel ⊢
  have EG := hide eg
  have ez := EZ.out
  have er : z.r = q.r := by rw [ez]
  have ec : z.c = q.c := by rw [ez]
  have ei : z.i = q.i := by rw [ez]
  have ea : z.a = q.a := by rw [ez]
  have et : z.t = q.t := by rw [ez]
  have ep : z.pa = pb := by rw [ez]
  have epc : z.pc = pd := by rw [ez]
  have r0a := Qn.rr hb1
  have r17a := Qn.rc hq hb1
  have r33a := Qn.ri hq hb1
  have r49a := Qn.ra hq hb1
  have x1 := Qn.rx hq hb1
  have r0b := Qn.rr hb2
  have r17b := Qn.rc hz hb2
  have r33b := Qn.ri hz hb2
  have r49b := Qn.ra hz hb2
  have x2 := Qn.rx hz hb2
  rw [er] at r0b
  rw [ec] at r17b
  rw [ei] at r33b
  rw [ea] at r49b
  rw [et, ep, epc] at x2
  have z0 : (Ybaf.prog.info? 22).map (·.size) = some (bc q.r).length := by rw [bc_length, hq.hr]; exact info22
  have z17 : (Ybaf.prog.info? 22).map (·.size) = some (bc q.c).length := by rw [bc_length, hq.hc]; exact info22
  have z33 : (Ybaf.prog.info? 22).map (·.size) = some (bc q.i).length := by rw [bc_length, hq.hi]; exact info22
  have z49 : (Ybaf.prog.info? 22).map (·.size) = some (bc q.a).length := by rw [bc_length, hq.ha]; exact info22
  have HEQ := hide (equal_any (hx.grown (below_size hbel)) (hy.grown (below_size hbel)))
  clear er ec ei ea et ep epc eg ez hb1 hb2
  go_upto_region 3 with (first | (refine wpList_load_g (by rfl) 22 _ (by rfl) g 0 (by rfl) (bc q.r) _ r0a Ybaf.underlying22 rfl z0 ?_) | (refine wpList_load_g (by rfl) 22 _ (by rfl) g 17 (by rfl) (bc q.c) _ r17a Ybaf.underlying22 rfl z17 ?_) | (refine wpList_load_g (by rfl) 22 _ (by rfl) g 33 (by rfl) (bc q.i) _ r33a Ybaf.underlying22 rfl z33 ?_) | (refine wpList_load_g (by rfl) 22 _ (by rfl) g 49 (by rfl) (bc q.a) _ r49a Ybaf.underlying22 rfl z49 ?_) | (refine wpList_load_g (by rfl) 22 _ (by rfl) (g + 1) 0 (by rfl) (bc q.r) _ r0b Ybaf.underlying22 rfl z0 ?_) | (refine wpList_load_g (by rfl) 22 _ (by rfl) (g + 1) 17 (by rfl) (bc q.c) _ r17b Ybaf.underlying22 rfl z17 ?_) | (refine wpList_load_g (by rfl) 22 _ (by rfl) (g + 1) 33 (by rfl) (bc q.i) _ r33b Ybaf.underlying22 rfl z33 ?_) | (refine wpList_load_g (by rfl) 22 _ (by rfl) (g + 1) 49 (by rfl) (bc q.a) _ r49b Ybaf.underlying22 rfl z49 ?_) | (refine wpList_neq_g (by rfl) _ _ _ (by rfl) q.r hq.hr (by rfl) (by rfl) ?_) | (refine wpList_neq_g (by rfl) _ _ _ (by rfl) q.c hq.hc (by rfl) (by rfl) ?_) | (refine wpList_neq_g (by rfl) _ _ _ (by rfl) q.i hq.hi (by rfl) (by rfl) ?_) | (refine wpList_neq_g (by rfl) _ _ _ (by rfl) q.a hq.ha (by rfl) (by rfl) ?_))
  clear r0a r17a r33a r49a r0b r17b r33b r49b
  have y1 := eq25o hx.nil w2
  have y2 := eq25o hy.nil w2
  have hd : decide (pb = none) = decide (q.pa = none) := by simp [hn]
  rw [hd] at y2
  clear hd
  generalize decide (q.pa = none) = bb at y1 y2
  go_wp2_with fail
  refine HEQ.out.mono ?_
  rintro e w3 ⟨rfl, ew⟩
  obtain rfl := ew.symm
  go_wp2
  go_ret
  exact ⟨rfl, hbel⟩
end Go.Proofs.YbulkfhtoFmt.A
