/-
  The lines: AppendQuintet, appendVectorLine, appendChallengeLine.
-/
import Derived.Test.YbulkfhtoFmtAQuin
namespace Go.Proofs.YbulkfhtoFmt.A
open Go.RowKit Go.Extern.Stop Go.Stop Go.Extern
attribute [local go_sem ↓] Go.wp_at_zero Go.wp_at_succ

theorem Xs.read {W : World} {pa : Option Addr} {t : List UInt8} {pc : Nat} (h : Xs W pa t pc) : (FmtStop.operand "fmt.Sprintf" false 120 false (.iface 25 (.slice pa t.length pc))).run Ybaf.prog W = .ok (shape25, rdX pa t) W := by
  cases hp : pa with
  | none =>
    obtain ⟨e1, e2⟩ := h.nil hp
    subst e1 e2
    exact op25n _ _
  | some x =>
    have e : t.length = (nums t).length := (nums_length t).symm
    rw [e, op25 _ _ _ _ _ (fun j v hv => h.cell x hp j v (by simpa [bc, nums] using hv))]
    unfold rdX
    rw [if_neg (by simp), nums_length]

theorem Own.older {W W' : World} {v v' : Value} (h : Own W' v v') (hs : W.heap.size ≤ W'.heap.size) : Own W v v' := h.imp id fun ⟨g, e, hg⟩ => ⟨g, e, Nat.le_trans hs hg⟩
theorem grown_first {a b c : World} {row : Option Nat} (h : a.grownBy b none) (k : b.grownBy c row) : a.grownBy c row :=
  grown_trans (row := row) ⟨h.os, h.tape, h.output, h.size, fun i hi _ => h.block i hi (by simp)⟩ k (.inl rfl)

set_option maxRecDepth 100000 in
set_option maxHeartbeats 8000000 in
theorem aq_any {W : World} {B : Nat} {v : Value} {l : List UInt8} {q : Qn} (F : Interp) (hF : F.told.answers W.tape) (hr : Row W B v l) (hB : B ≤ W.heap.size) (hlen : l.length ≤ 70368744177664) (hq : q.Ok) (hs : Xs W q.pa q.t q.pc) :
    Calls Ybaf.prog 22 #[v, .agg q.cells.toArray] W (Left W B v l (tQuin q.r q.t q.c q.i q.a)) := by
  obtain ⟨g, eg⟩ : ∃ g, g = W.heap.size := ⟨_, rfl⟩
  have hb1 : Blk (W.alloc (.cells q.cells.toArray 36)) g 36 q.cells := by rw [eg]; exact Blk.new W 36 q.cells
  have r1 := Qn.rr hb1
  have r2 := Qn.rc hq hb1
  have r3 := Qn.ri hq hb1
  have r4 := Qn.ra hq hb1
  have l5 := Qn.rx hq hb1
  have EG := hide eg
  go_enter Ybaf.func22, Ybaf.ntmps22
  go_upto_region 1 with (fail)
  rw [← eg]
  clear eg
  have hg1 := World.grownBy_alloc W (.cells q.cells.toArray 36) none
  generalize (W.alloc (.cells q.cells.toArray 36)) = w1 at hb1 r1 r2 r3 r4 l5 hg1 ⊢
  go_wp2_with (first | (refine wpList_load_mid (by rfl) 22 _ (by rfl) g 0 (by rfl) _ _ r1 Ybaf.underlying22 rfl (by rw [bc_length, hq.hr]; exact info22) ?_) | (refine wpList_load_mid (by rfl) 22 _ (by rfl) g 17 (by rfl) _ _ r2 Ybaf.underlying22 rfl (by rw [bc_length, hq.hc]; exact info22) ?_) | (refine wpList_load_mid (by rfl) 22 _ (by rfl) g 33 (by rfl) _ _ r3 Ybaf.underlying22 rfl (by rw [bc_length, hq.hi]; exact info22) ?_) | (refine wpList_load_mid (by rfl) 22 _ (by rfl) g 49 (by rfl) _ _ r4 Ybaf.underlying22 rfl (by rw [bc_length, hq.ha]; exact info22) ?_))
  refine (af_quin F (by show F.told.answers w1.tape; rw [hg1.tape]; exact hF) ((hr.grown hg1).alloc _) (by have := hg1.size; simp; omega) hlen (Blk.new w1 20 [.iface 22 (.agg (bc q.r).toArray), .iface 25 (.slice q.pa q.t.length q.pc), .iface 22 (.agg (bc q.c).toArray), .iface 22 (.agg (bc q.i).toArray), .iface 22 (.agg (bc q.a).toArray)]) hq.hr hq.hc hq.hi hq.ha (Xs.read ((hs.grown hg1).grown (World.grownBy_alloc _ _ none))) hq.nil (by have := hq.len; omega)).mono ?_
  rintro e w2 ⟨v2, rfl, hr2, hg2, ho2⟩
  clear r1 r2 r3 r4 l5
  go_wp2
  go_ret
  exact ⟨_, rfl, hr2, grown_first hg1 (grown_made hg2), ho2.older (by have := hg1.size; simp; omega)⟩

/-- "vector " -/
def sVec : List UInt8 := [118, 101, 99, 116, 111, 114, 32]
set_option maxRecDepth 100000 in
set_option maxHeartbeats 8000000 in
theorem vline_any {W : World} {B : Nat} {v : Value} {l : List UInt8} {q : Qn} (F : Interp) (hF : F.told.answers W.tape) (hr : Row W B v l) (hB : B ≤ W.heap.size) (hlen : l.length ≤ 35184372088832) (hq : q.Ok) (hs : Xs W q.pa q.t q.pc) (hx : ∀ x, q.pa = some x → x.block < B) :
    Calls Ybaf.prog 17 #[v, .agg q.cells.toArray] W (Left W B v l (sVec ++ tQuin q.r q.t q.c q.i q.a ++ [10])) := by
  obtain ⟨g, eg⟩ : ∃ g, g = W.heap.size := ⟨_, rfl⟩
  have hb1 : Blk (W.alloc (.cells q.cells.toArray 36)) g 36 q.cells := by rw [eg]; exact Blk.new W 36 q.cells
  have hg1 := World.grownBy_alloc W (.cells q.cells.toArray 36) none
  have EG := hide eg
  go_enter Ybaf.func17, Ybaf.ntmps17
  go_upto_region 1 with (fail)
  rw [← eg]
  clear eg
  generalize (W.alloc (.cells q.cells.toArray 36)) = w1 at hb1 hg1 ⊢
  have hr1 : Row w1.drew B v l := (hr.grown hg1).drew
  have hs1 := hs.grown hg1
  have gr0 : w1.grownBy w1.drew v.ownBlock := grown_drew (grown_refl _ _)
  have hgv : some g ≠ v.ownBlock := fun e => by have := (hr.lt _ e.symm).2; have := EG.out; omega
  have hxv : ∀ x, q.pa = some x → some x.block ≠ v.ownBlock := fun x e e' => by have := hx x e; have := (hr.lt _ e'.symm).1; omega
  have hql : (tQuin q.r q.t q.c q.i q.a).length ≤ 3000000 := by
    have := hq.len
    simp only [tQuin, List.length_append, List.length_cons, List.length_nil, FmtText.hexOf_length, hq.hr, hq.hc, hq.hi, hq.ha]
    omega
  refine wp_region_noPanic ?_
  refine wp_region_held_drew (S := fun w' => w'.rangeAt g 0 q.cells) (by kernel_rfl) ((hb1.kept gr0 hgv).range 0 (by simp)) (fun hS0 => ?_)
  refine wpAnyH_take (i := 0) (oi := { dst := some 5, op := Op.move (Operand.tmp 0), type := 25, pos := "node.go:215", after := #[], guard := none }) (v := v) rfl (by kernel_rfl) (by kernel_rfl) (by kernel_rfl) (fun _ _ _ h => h) (Or.inl ⟨by rfl, ?_⟩) hS0 ?_
  · intro w hSw; go_simp
  simp only [Act.put, List.setIfInBounds_toArray, List.set_cons_zero, List.set_cons_succ]
  refine wpAnyH_take (i := 2) (oi := { dst := some 7, op := Op.load 36 (Operand.tmp 3), type := 36, pos := "node.go:215", after := #[], guard := none }) (v := .agg q.cells.toArray) rfl (by kernel_rfl) (by kernel_rfl) (by kernel_rfl) (fun _ _ _ h => h) (yieldsIf_load_mid (by rfl) _ _ rfl g 0 rfl q.cells _ (fun w h => h) Ybaf.underlying36 rfl (by rw [hq.size]; exact info36)) hS0 ?_
  simp only [Act.put, List.setIfInBounds_toArray, List.set_cons_zero, List.set_cons_succ]
  refine wpAnyH_ready (rs := [1, 4]) (by kernel_rfl) (by simp) ?_
  refine AllReadyH.cons (o := { dst := some 6, op := Op.call { callee := Callee.builtin Builtin.append, args := #[Operand.tmp 5, Operand.const (Value.string { data := #[118, 101, 99, 116, 111, 114, 32] })], argTypes := #[25, 9] }, type := 25, pos := "node.go:215", after := #[{ on := 0, ground := Ground.data }], guard := none }) rfl (fun K hK => ?_) ?_
  · rw [if_pos (by rfl)]
    refine wp_app_str (v := v) _ _ rfl rfl hr1 ⟨sVec.toArray⟩ rfl (by simp [sVec]; omega) (Nat.le_trans hB (Nat.le_trans hg1.size gr0.size)) ?_
    intro v1 w2 hr3 hg4 ho5
    have gr6 := (Own.refl w1 v).grown gr0 hg4
    have ow7 := (Own.refl w1 v).trans gr0.size (Own.of ho5)
    refine hK.out _ _ ((hb1.kept gr6 hgv).range 0 (by simp)) (fun hS8 => ?_)
    clear hK K
    simp only [Act.put, List.setIfInBounds_toArray, List.set_cons_zero, List.set_cons_succ]
    refine wpAnyH_ready (rs := [3, 4]) (by kernel_rfl) (by simp) ?_
    refine AllReadyH.cons (o := { dst := some 8, op := Op.call { callee := Callee.value (Operand.func 22), args := #[Operand.tmp 6, Operand.tmp 7], argTypes := #[25, 36] }, type := 25, pos := "node.go:215", after := #[{ on := 1, ground := Ground.data }, { on := 2, ground := Ground.data }, { on := 1, ground := Ground.chain }], guard := none }) rfl (fun K hK => ?_) ?_
    · go_wp2_with fail
      refine (aq_any F (by rw [gr6.tape, hg1.tape]; exact hF) hr3 (Nat.le_trans hB (Nat.le_trans hg1.size gr6.size)) (by simp [sVec]; omega) hq (hs1.kept gr6 hxv)).mono ?_
      rintro e w10 ⟨v9, rfl, hr11, hg12, ho13⟩
      have gr14 := ow7.grown gr6 hg12
      have ow15 := ow7.trans gr6.size ho13
      refine hK.out _ _ ((hb1.kept gr14 hgv).range 0 (by simp)) (fun hS16 => ?_)
      clear hK K
      refine wpAnyH_ready (rs := [4]) (by kernel_rfl) (by simp) ?_
      refine AllReadyH.cons (o := { dst := some 9, op := Op.buildSlice 25 1 #[(0, Operand.const (Value.int IntKind.u8 10))], type := 25, pos := "node.go:215", after := #[], guard := none }) rfl (fun K hK => ?_) AllReadyH.nil
      go_simp
      have nb17 := Blk.new w10 5 [.int .u8 10]
      have ne18 : some w10.heap.size ≠ (v9).ownBlock := fun e => by have := (hr11.lt _ e.symm).2; omega
      have gr19 := grown_trans (row := v.ownBlock) gr14 (World.grownBy_alloc w10 (.cells #[.int .u8 10] 5) v.ownBlock) (.inl rfl)
      have hr20 := hr11.alloc (.cells #[.int .u8 10] 5)
      refine hK.out _ _ ((hb1.kept gr19 hgv).range 0 (by simp)) (fun hS21 => ?_)
      clear hK K
      refine wpAnyH_ready (rs := [5]) (by kernel_rfl) (by simp) ?_
      refine AllReadyH.cons (o := { dst := some 10, op := Op.call { callee := Callee.builtin Builtin.append, args := #[Operand.tmp 8, Operand.tmp 9], argTypes := #[25, 25] }, type := 25, pos := "node.go:215", after := #[{ on := 3, ground := Ground.data }, { on := 4, ground := Ground.data }, { on := 3, ground := Ground.chain }], guard := none }) rfl (fun K hK => ?_) AllReadyH.nil
      rw [if_pos (by rfl)]
      refine wp_app_sl (v := v9) _ _ rfl rfl hr20 [10] ⟨w10.heap.size, 0, none⟩ 1 rfl (World.news_of_block nb17) (by have := hql; simp [sVec]; omega) (Nat.le_trans hB (Nat.le_trans hg1.size gr19.size)) ?_
      intro v22 w23 hr24 hg25 hn26 ho27
      have gr28 := ow15.grown gr19 hg25
      have ow29 := ow15.trans gr19.size (Own.of ho27)
      have nb30 := nb17.kept hg25 ne18
      have ne31 := Own.ne (Own.of ho27) nb17.lt ne18
      refine hK.out _ _ ((hb1.kept gr28 hgv).range 0 (by simp)) (fun hS32 => ?_)
      clear hK K
      simp only [Act.put, List.setIfInBounds_toArray, List.set_cons_zero, List.set_cons_succ]
      refine wpAnyH_take (i := 6) (oi := { dst := some 4, op := Op.assign (Operand.tmp 10), type := 25, pos := "node.go:215", after := #[{ on := 5, ground := Ground.data }, { on := 5, ground := Ground.chain }, { on := 0, ground := Ground.phase }, { on := 1, ground := Ground.phase }, { on := 2, ground := Ground.phase }, { on := 3, ground := Ground.phase }, { on := 4, ground := Ground.phase }, { on := 5, ground := Ground.phase }], guard := none }) (v := v22) rfl (by kernel_rfl) (by kernel_rfl) (by kernel_rfl) (fun _ _ _ h => h) (Or.inl ⟨by rfl, ?_⟩) hS32 ?_
      · intro w hSw; go_simp
      simp only [Act.put, List.setIfInBounds_toArray, List.set_cons_zero, List.set_cons_succ]
      refine wpAnyH_done (by kernel_rfl) ?_ _
      refine NoPanic.normal ?_
      go_wp2
      go_ret
      refine ⟨_, rfl, ?_, grown_first hg1 gr28, ow29.older hg1.size⟩
      have e : l ++ (sVec ++ tQuin q.r q.t q.c q.i q.a ++ [10]) = l ++ sVec ++ tQuin q.r q.t q.c q.i q.a ++ [10] := by simp
      rw [e]; exact hr24
    refine AllReadyH.cons (o := { dst := some 9, op := Op.buildSlice 25 1 #[(0, Operand.const (Value.int IntKind.u8 10))], type := 25, pos := "node.go:215", after := #[], guard := none }) rfl (fun K hK => ?_) AllReadyH.nil
    go_simp
    have nb33 := Blk.new w2 5 [.int .u8 10]
    have ne34 : some w2.heap.size ≠ (v1).ownBlock := fun e => by have := (hr3.lt _ e.symm).2; omega
    have gr35 := grown_trans (row := v.ownBlock) gr6 (World.grownBy_alloc w2 (.cells #[.int .u8 10] 5) v.ownBlock) (.inl rfl)
    have hr36 := hr3.alloc (.cells #[.int .u8 10] 5)
    refine hK.out _ _ ((hb1.kept gr35 hgv).range 0 (by simp)) (fun hS37 => ?_)
    clear hK K
    refine wpAnyH_ready (rs := [3]) (by kernel_rfl) (by simp) ?_
    refine AllReadyH.cons (o := { dst := some 8, op := Op.call { callee := Callee.value (Operand.func 22), args := #[Operand.tmp 6, Operand.tmp 7], argTypes := #[25, 36] }, type := 25, pos := "node.go:215", after := #[{ on := 1, ground := Ground.data }, { on := 2, ground := Ground.data }, { on := 1, ground := Ground.chain }], guard := none }) rfl (fun K hK => ?_) AllReadyH.nil
    go_wp2_with fail
    refine (aq_any F (by rw [gr35.tape, hg1.tape]; exact hF) hr36 (Nat.le_trans hB (Nat.le_trans hg1.size gr35.size)) (by simp [sVec]; omega) hq (hs1.kept gr35 hxv)).mono ?_
    rintro e w39 ⟨v38, rfl, hr40, hg41, ho42⟩
    have gr43 := ow7.grown gr35 hg41
    have ow44 := ow7.trans gr35.size ho42
    have nb45 := nb33.kept hg41 ne34
    have ne46 := Own.ne ho42 nb33.lt ne34
    refine hK.out _ _ ((hb1.kept gr43 hgv).range 0 (by simp)) (fun hS47 => ?_)
    clear hK K
    refine wpAnyH_ready (rs := [5]) (by kernel_rfl) (by simp) ?_
    refine AllReadyH.cons (o := { dst := some 10, op := Op.call { callee := Callee.builtin Builtin.append, args := #[Operand.tmp 8, Operand.tmp 9], argTypes := #[25, 25] }, type := 25, pos := "node.go:215", after := #[{ on := 3, ground := Ground.data }, { on := 4, ground := Ground.data }, { on := 3, ground := Ground.chain }], guard := none }) rfl (fun K hK => ?_) AllReadyH.nil
    rw [if_pos (by rfl)]
    refine wp_app_sl (v := v38) _ _ rfl rfl hr40 [10] ⟨w2.heap.size, 0, none⟩ 1 rfl (World.news_of_block nb45) (by have := hql; simp [sVec]; omega) (Nat.le_trans hB (Nat.le_trans hg1.size gr43.size)) ?_
    intro v48 w49 hr50 hg51 hn52 ho53
    have gr54 := ow44.grown gr43 hg51
    have ow55 := ow44.trans gr43.size (Own.of ho53)
    have nb56 := nb45.kept hg51 ne46
    have ne57 := Own.ne (Own.of ho53) nb45.lt ne46
    refine hK.out _ _ ((hb1.kept gr54 hgv).range 0 (by simp)) (fun hS58 => ?_)
    clear hK K
    simp only [Act.put, List.setIfInBounds_toArray, List.set_cons_zero, List.set_cons_succ]
    refine wpAnyH_take (i := 6) (oi := { dst := some 4, op := Op.assign (Operand.tmp 10), type := 25, pos := "node.go:215", after := #[{ on := 5, ground := Ground.data }, { on := 5, ground := Ground.chain }, { on := 0, ground := Ground.phase }, { on := 1, ground := Ground.phase }, { on := 2, ground := Ground.phase }, { on := 3, ground := Ground.phase }, { on := 4, ground := Ground.phase }, { on := 5, ground := Ground.phase }], guard := none }) (v := v48) rfl (by kernel_rfl) (by kernel_rfl) (by kernel_rfl) (fun _ _ _ h => h) (Or.inl ⟨by rfl, ?_⟩) hS58 ?_
    · intro w hSw; go_simp
    simp only [Act.put, List.setIfInBounds_toArray, List.set_cons_zero, List.set_cons_succ]
    refine wpAnyH_done (by kernel_rfl) ?_ _
    refine NoPanic.normal ?_
    go_wp2
    go_ret
    refine ⟨_, rfl, ?_, grown_first hg1 gr54, ow55.older hg1.size⟩
    have e : l ++ (sVec ++ tQuin q.r q.t q.c q.i q.a ++ [10]) = l ++ sVec ++ tQuin q.r q.t q.c q.i q.a ++ [10] := by simp
    rw [e]; exact hr50
  refine AllReadyH.cons (o := { dst := some 9, op := Op.buildSlice 25 1 #[(0, Operand.const (Value.int IntKind.u8 10))], type := 25, pos := "node.go:215", after := #[], guard := none }) rfl (fun K hK => ?_) AllReadyH.nil
  go_simp
  have nb59 := Blk.new w1.drew 5 [.int .u8 10]
  have ne60 : some w1.drew.heap.size ≠ (v).ownBlock := fun e => by have := (hr1.lt _ e.symm).2; omega
  have gr61 := grown_trans (row := v.ownBlock) gr0 (World.grownBy_alloc w1.drew (.cells #[.int .u8 10] 5) v.ownBlock) (.inl rfl)
  have hr62 := hr1.alloc (.cells #[.int .u8 10] 5)
  refine hK.out _ _ ((hb1.kept gr61 hgv).range 0 (by simp)) (fun hS63 => ?_)
  clear hK K
  refine wpAnyH_ready (rs := [1]) (by kernel_rfl) (by simp) ?_
  refine AllReadyH.cons (o := { dst := some 6, op := Op.call { callee := Callee.builtin Builtin.append, args := #[Operand.tmp 5, Operand.const (Value.string { data := #[118, 101, 99, 116, 111, 114, 32] })], argTypes := #[25, 9] }, type := 25, pos := "node.go:215", after := #[{ on := 0, ground := Ground.data }], guard := none }) rfl (fun K hK => ?_) AllReadyH.nil
  rw [if_pos (by rfl)]
  refine wp_app_str (v := v) _ _ rfl rfl hr62 ⟨sVec.toArray⟩ rfl (by simp [sVec]; omega) (Nat.le_trans hB (Nat.le_trans hg1.size gr61.size)) ?_
  intro v64 w65 hr66 hg67 ho68
  have gr69 := (Own.refl w1 v).grown gr61 hg67
  have ow70 := (Own.refl w1 v).trans gr61.size (Own.of ho68)
  have nb71 := nb59.kept hg67 ne60
  have ne72 := Own.ne (Own.of ho68) nb59.lt ne60
  refine hK.out _ _ ((hb1.kept gr69 hgv).range 0 (by simp)) (fun hS73 => ?_)
  clear hK K
  simp only [Act.put, List.setIfInBounds_toArray, List.set_cons_zero, List.set_cons_succ]
  refine wpAnyH_ready (rs := [3]) (by kernel_rfl) (by simp) ?_
  refine AllReadyH.cons (o := { dst := some 8, op := Op.call { callee := Callee.value (Operand.func 22), args := #[Operand.tmp 6, Operand.tmp 7], argTypes := #[25, 36] }, type := 25, pos := "node.go:215", after := #[{ on := 1, ground := Ground.data }, { on := 2, ground := Ground.data }, { on := 1, ground := Ground.chain }], guard := none }) rfl (fun K hK => ?_) AllReadyH.nil
  go_wp2_with fail
  refine (aq_any F (by rw [gr69.tape, hg1.tape]; exact hF) hr66 (Nat.le_trans hB (Nat.le_trans hg1.size gr69.size)) (by simp [sVec]; omega) hq (hs1.kept gr69 hxv)).mono ?_
  rintro e w75 ⟨v74, rfl, hr76, hg77, ho78⟩
  have gr79 := ow70.grown gr69 hg77
  have ow80 := ow70.trans gr69.size ho78
  have nb81 := nb71.kept hg77 ne72
  have ne82 := Own.ne ho78 nb71.lt ne72
  refine hK.out _ _ ((hb1.kept gr79 hgv).range 0 (by simp)) (fun hS83 => ?_)
  clear hK K
  refine wpAnyH_ready (rs := [5]) (by kernel_rfl) (by simp) ?_
  refine AllReadyH.cons (o := { dst := some 10, op := Op.call { callee := Callee.builtin Builtin.append, args := #[Operand.tmp 8, Operand.tmp 9], argTypes := #[25, 25] }, type := 25, pos := "node.go:215", after := #[{ on := 3, ground := Ground.data }, { on := 4, ground := Ground.data }, { on := 3, ground := Ground.chain }], guard := none }) rfl (fun K hK => ?_) AllReadyH.nil
  rw [if_pos (by rfl)]
  refine wp_app_sl (v := v74) _ _ rfl rfl hr76 [10] ⟨w1.drew.heap.size, 0, none⟩ 1 rfl (World.news_of_block nb81) (by have := hql; simp [sVec]; omega) (Nat.le_trans hB (Nat.le_trans hg1.size gr79.size)) ?_
  intro v84 w85 hr86 hg87 hn88 ho89
  have gr90 := ow80.grown gr79 hg87
  have ow91 := ow80.trans gr79.size (Own.of ho89)
  have nb92 := nb81.kept hg87 ne82
  have ne93 := Own.ne (Own.of ho89) nb81.lt ne82
  refine hK.out _ _ ((hb1.kept gr90 hgv).range 0 (by simp)) (fun hS94 => ?_)
  clear hK K
  simp only [Act.put, List.setIfInBounds_toArray, List.set_cons_zero, List.set_cons_succ]
  refine wpAnyH_take (i := 6) (oi := { dst := some 4, op := Op.assign (Operand.tmp 10), type := 25, pos := "node.go:215", after := #[{ on := 5, ground := Ground.data }, { on := 5, ground := Ground.chain }, { on := 0, ground := Ground.phase }, { on := 1, ground := Ground.phase }, { on := 2, ground := Ground.phase }, { on := 3, ground := Ground.phase }, { on := 4, ground := Ground.phase }, { on := 5, ground := Ground.phase }], guard := none }) (v := v84) rfl (by kernel_rfl) (by kernel_rfl) (by kernel_rfl) (fun _ _ _ h => h) (Or.inl ⟨by rfl, ?_⟩) hS94 ?_
  · intro w hSw; go_simp
  simp only [Act.put, List.setIfInBounds_toArray, List.set_cons_zero, List.set_cons_succ]
  refine wpAnyH_done (by kernel_rfl) ?_ _
  refine NoPanic.normal ?_
  go_wp2
  go_ret
  refine ⟨_, rfl, ?_, grown_first hg1 gr90, ow91.older hg1.size⟩
  have e : l ++ (sVec ++ tQuin q.r q.t q.c q.i q.a ++ [10]) = l ++ sVec ++ tQuin q.r q.t q.c q.i q.a ++ [10] := by simp
  rw [e]; exact hr86

/-- The 66 cells of a challenge. -/
def Qn.chal (q : Qn) (k : Int) : List Value := q.cells ++ [.int .i64 k]
theorem chal_S {w : World} {g ty : Nat} {q : Qn} {k : Int} (h : Blk w g ty (q.chal k)) (hq : q.Ok) : w.rangeAt g 0 q.cells ∧ w.cell? ⟨g, 65, none⟩ = some (.int .i64 k) :=
  ⟨h.range 0 (by simp [Qn.chal]), h.cell (by unfold Qn.chal; rw [List.getElem?_append_right (by rw [hq.size]; omega), hq.size]; rfl)⟩
theorem Qn.Ok.tlen {q : Qn} (hq : q.Ok) : (tQuin q.r q.t q.c q.i q.a).length ≤ 3000000 := by
  have := hq.len
  simp only [tQuin, List.length_append, List.length_cons, List.length_nil, FmtText.hexOf_length, hq.hr, hq.hc, hq.hi, hq.ha]
  omega

/-- "challenge " -/
def sChal : List UInt8 := [99, 104, 97, 108, 108, 101, 110, 103, 101, 32]
set_option maxRecDepth 100000 in
set_option maxHeartbeats 8000000 in
theorem cline_any {W : World} {B : Nat} {v : Value} {l : List UInt8} {q : Qn} {k : Int} (F : Interp) (hF : F.told.answers W.tape) (hr : Row W B v l) (hB : B ≤ W.heap.size) (hlen : l.length ≤ 35184372088832) (hq : q.Ok) (hs : Xs W q.pa q.t q.pc) (hx : ∀ x, q.pa = some x → x.block < B) (hk : (Lit.int .i64 k).wf = true) :
    Calls Ybaf.prog 16 #[v, .agg (q.chal k).toArray] W (Left W B v l (sChal ++ tQuin q.r q.t q.c q.i q.a ++ tKsi k)) := by
  obtain ⟨g, eg⟩ : ∃ g, g = W.heap.size := ⟨_, rfl⟩
  have hb1 : Blk (W.alloc (.cells (q.chal k).toArray 39)) g 39 (q.chal k) := by rw [eg]; exact Blk.new W 39 _
  have hg1 := World.grownBy_alloc W (.cells (q.chal k).toArray 39) none
  have EG := hide eg
  go_enter Ybaf.func16, Ybaf.ntmps16
  go_upto_region 1 with (fail)
  rw [← eg]
  clear eg
  generalize (W.alloc (.cells (q.chal k).toArray 39)) = w1 at hb1 hg1 ⊢
  have hr1 : Row w1.drew B v l := (hr.grown hg1).drew
  have hs1 := hs.grown hg1
  have gr0 : w1.grownBy w1.drew v.ownBlock := grown_drew (grown_refl _ _)
  have hgv : some g ≠ v.ownBlock := fun e => by have := (hr.lt _ e.symm).2; have := EG.out; omega
  have hxv : ∀ x, q.pa = some x → some x.block ≠ v.ownBlock := fun x e e' => by have := hx x e; have := (hr.lt _ e'.symm).1; omega
  have hql : (tQuin q.r q.t q.c q.i q.a).length ≤ 3000000 := hq.tlen
  refine wp_region_noPanic ?_
  refine wp_region_held_drew (S := fun w' => w'.rangeAt g 0 q.cells ∧ w'.cell? ⟨g, 65, none⟩ = some (.int .i64 k)) (by kernel_rfl) (chal_S (hb1.kept gr0 hgv) hq) (fun hS0 => ?_)
  refine wpAnyH_take (i := 0) (oi := { dst := some 5, op := Op.move (Operand.tmp 0), type := 25, pos := "node.go:209", after := #[], guard := none }) (v := v) rfl (by kernel_rfl) (by kernel_rfl) (by kernel_rfl) (fun _ _ _ h => h) (Or.inl ⟨by rfl, ?_⟩) hS0 ?_
  · intro w hSw; go_simp
  simp only [Act.put, List.setIfInBounds_toArray, List.set_cons_zero, List.set_cons_succ]
  refine wpAnyH_take (i := 2) (oi := { dst := some 7, op := Op.fieldAddr 39 (Operand.tmp 3) 0, type := 0, pos := "node.go:209", after := #[], guard := none }) (v := .pointer (some ⟨g, 0, none⟩)) rfl (by kernel_rfl) (by kernel_rfl) (by kernel_rfl) (fun _ _ _ h => h) (Or.inl ⟨by rfl, ?_⟩) hS0 ?_
  · intro w hSw; go_simp
  simp only [Act.put, List.setIfInBounds_toArray, List.set_cons_zero, List.set_cons_succ]
  refine wpAnyH_take (i := 3) (oi := { dst := some 8, op := Op.load 36 (Operand.tmp 7), type := 36, pos := "node.go:209", after := #[{ on := 2, ground := Ground.data }], guard := none }) (v := .agg q.cells.toArray) rfl (by kernel_rfl) (by kernel_rfl) (by kernel_rfl) (fun _ _ _ h => h) (yieldsIf_load_mid (by rfl) _ _ rfl g 0 rfl q.cells _ (fun w h => h.1) Ybaf.underlying36 rfl (by rw [hq.size]; exact info36)) hS0 ?_
  simp only [Act.put, List.setIfInBounds_toArray, List.set_cons_zero, List.set_cons_succ]
  refine wpAnyH_take (i := 5) (oi := { dst := some 10, op := Op.fieldAddr 39 (Operand.tmp 3) 1, type := 0, pos := "node.go:209", after := #[], guard := none }) (v := .pointer (some ⟨g, 65, none⟩)) rfl (by kernel_rfl) (by kernel_rfl) (by kernel_rfl) (fun _ _ _ h => h) (Or.inl ⟨by rfl, ?_⟩) hS0 ?_
  · intro w hSw; go_simp
  simp only [Act.put, List.setIfInBounds_toArray, List.set_cons_zero, List.set_cons_succ]
  refine wpAnyH_take (i := 6) (oi := { dst := some 11, op := Op.load 3 (Operand.tmp 10), type := 3, pos := "node.go:209", after := #[{ on := 5, ground := Ground.data }], guard := none }) (v := .int .i64 k) rfl (by kernel_rfl) (by kernel_rfl) (by kernel_rfl) (fun _ _ _ h => h) (Or.inl ⟨by rfl, ?_⟩) hS0 ?_
  · intro w hSw; go_simp
  simp only [Act.put, List.setIfInBounds_toArray, List.set_cons_zero, List.set_cons_succ]
  refine wpAnyH_take (i := 7) (oi := { dst := some 12, op := Op.makeInterface 3 (Operand.tmp 11), type := 20, pos := "node.go:209", after := #[{ on := 6, ground := Ground.data }], guard := none }) (v := .iface 3 (.int .i64 k)) rfl (by kernel_rfl) (by kernel_rfl) (by kernel_rfl) (fun _ _ _ h => h) (Or.inl ⟨by rfl, ?_⟩) hS0 ?_
  · intro w hSw; go_simp
  simp only [Act.put, List.setIfInBounds_toArray, List.set_cons_zero, List.set_cons_succ]
  refine wpAnyH_ready (rs := [1, 8]) (by kernel_rfl) (by simp) ?_
  refine AllReadyH.cons (o := { dst := some 6, op := Op.call { callee := Callee.builtin Builtin.append, args := #[Operand.tmp 5, Operand.const (Value.string { data := #[99, 104, 97, 108, 108, 101, 110, 103, 101, 32] })], argTypes := #[25, 9] }, type := 25, pos := "node.go:209", after := #[{ on := 0, ground := Ground.data }], guard := none }) rfl (fun K hK => ?_) ?_
  · rw [if_pos (by rfl)]
    refine wp_app_str (v := v) _ _ rfl rfl hr1 ⟨sChal.toArray⟩ rfl (by simp [sChal]; omega) (Nat.le_trans hB (Nat.le_trans hg1.size gr0.size)) ?_
    intro v1 w2 hr3 hg4 ho5
    have gr6 := (Own.refl w1 v).grown gr0 hg4
    have ow7 := (Own.refl w1 v).trans gr0.size (Own.of ho5)
    refine hK.out _ _ (chal_S (hb1.kept gr6 hgv) hq) (fun hS8 => ?_)
    clear hK K
    simp only [Act.put, List.setIfInBounds_toArray, List.set_cons_zero, List.set_cons_succ]
    refine wpAnyH_ready (rs := [4, 8]) (by kernel_rfl) (by simp) ?_
    refine AllReadyH.cons (o := { dst := some 9, op := Op.call { callee := Callee.value (Operand.func 22), args := #[Operand.tmp 6, Operand.tmp 8], argTypes := #[25, 36] }, type := 25, pos := "node.go:209", after := #[{ on := 1, ground := Ground.data }, { on := 3, ground := Ground.data }, { on := 1, ground := Ground.chain }], guard := none }) rfl (fun K hK => ?_) ?_
    · go_wp2_with fail
      refine (aq_any F (by rw [gr6.tape, hg1.tape]; exact hF) hr3 (Nat.le_trans hB (Nat.le_trans hg1.size gr6.size)) (by simp [sChal]; omega) hq (hs1.kept gr6 hxv)).mono ?_
      rintro e w10 ⟨v9, rfl, hr11, hg12, ho13⟩
      have gr14 := ow7.grown gr6 hg12
      have ow15 := ow7.trans gr6.size ho13
      refine hK.out _ _ (chal_S (hb1.kept gr14 hgv) hq) (fun hS16 => ?_)
      clear hK K
      refine wpAnyH_ready (rs := [8]) (by kernel_rfl) (by simp) ?_
      refine AllReadyH.cons (o := { dst := some 13, op := Op.buildSlice 64 1 #[(0, Operand.tmp 12)], type := 64, pos := "node.go:209", after := #[{ on := 7, ground := Ground.data }], guard := none }) rfl (fun K hK => ?_) AllReadyH.nil
      go_simp
      have nb17 := Blk.new w10 20 [.iface 3 (.int .i64 k)]
      have ne18 : some w10.heap.size ≠ (v9).ownBlock := fun e => by have := (hr11.lt _ e.symm).2; omega
      have gr19 := grown_trans (row := v.ownBlock) gr14 (World.grownBy_alloc w10 (.cells #[.iface 3 (.int .i64 k)] 20) v.ownBlock) (.inl rfl)
      have hr20 := hr11.alloc (.cells #[.iface 3 (.int .i64 k)] 20)
      refine hK.out _ _ (chal_S (hb1.kept gr19 hgv) hq) (fun hS21 => ?_)
      clear hK K
      refine wpAnyH_ready (rs := [9]) (by kernel_rfl) (by simp) ?_
      refine AllReadyH.cons (o := { dst := some 14, op := Op.call { callee := Callee.value (Operand.func 15), args := #[Operand.tmp 9, Operand.const (Value.string { data := #[32, 37, 100, 10] }), Operand.tmp 13], argTypes := #[25, 9, 64] }, type := 25, pos := "node.go:209", after := #[{ on := 4, ground := Ground.data }, { on := 8, ground := Ground.data }, { on := 4, ground := Ground.chain }], guard := none }) rfl (fun K hK => ?_) AllReadyH.nil
      go_wp2_with fail
      refine (af_ksi F (by rw [gr19.tape, hg1.tape]; exact hF) hr20 (Nat.le_trans hB (Nat.le_trans hg1.size gr19.size)) (by have := hql; simp [sChal]; omega) nb17 hk).mono ?_
      rintro e w23 ⟨v22, rfl, hr24, hg25, ho26⟩
      have gr27 := ow15.grown gr19 hg25
      have ow28 := ow15.trans gr19.size ho26
      have nb29 := nb17.kept hg25 ne18
      have ne30 := Own.ne ho26 nb17.lt ne18
      refine hK.out _ _ (chal_S (hb1.kept gr27 hgv) hq) (fun hS31 => ?_)
      clear hK K
      refine wpAnyH_take (i := 10) (oi := { dst := some 4, op := Op.assign (Operand.tmp 14), type := 25, pos := "node.go:209", after := #[{ on := 9, ground := Ground.data }, { on := 9, ground := Ground.chain }, { on := 0, ground := Ground.phase }, { on := 1, ground := Ground.phase }, { on := 2, ground := Ground.phase }, { on := 3, ground := Ground.phase }, { on := 4, ground := Ground.phase }, { on := 5, ground := Ground.phase }, { on := 6, ground := Ground.phase }, { on := 7, ground := Ground.phase }, { on := 8, ground := Ground.phase }, { on := 9, ground := Ground.phase }], guard := none }) (v := v22) rfl (by kernel_rfl) (by kernel_rfl) (by kernel_rfl) (fun _ _ _ h => h) (Or.inl ⟨by rfl, ?_⟩) hS31 ?_
      · intro w hSw; go_simp
      simp only [Act.put, List.setIfInBounds_toArray, List.set_cons_zero, List.set_cons_succ]
      refine wpAnyH_done (by kernel_rfl) ?_ _
      refine NoPanic.normal ?_
      go_wp2
      go_ret
      refine ⟨_, rfl, ?_, grown_first hg1 gr27, ow28.older hg1.size⟩
      have e : l ++ (sChal ++ tQuin q.r q.t q.c q.i q.a ++ tKsi k) = l ++ sChal ++ tQuin q.r q.t q.c q.i q.a ++ tKsi k := by simp
      rw [e]; exact hr24
    refine AllReadyH.cons (o := { dst := some 13, op := Op.buildSlice 64 1 #[(0, Operand.tmp 12)], type := 64, pos := "node.go:209", after := #[{ on := 7, ground := Ground.data }], guard := none }) rfl (fun K hK => ?_) AllReadyH.nil
    go_simp
    have nb32 := Blk.new w2 20 [.iface 3 (.int .i64 k)]
    have ne33 : some w2.heap.size ≠ (v1).ownBlock := fun e => by have := (hr3.lt _ e.symm).2; omega
    have gr34 := grown_trans (row := v.ownBlock) gr6 (World.grownBy_alloc w2 (.cells #[.iface 3 (.int .i64 k)] 20) v.ownBlock) (.inl rfl)
    have hr35 := hr3.alloc (.cells #[.iface 3 (.int .i64 k)] 20)
    refine hK.out _ _ (chal_S (hb1.kept gr34 hgv) hq) (fun hS36 => ?_)
    clear hK K
    refine wpAnyH_ready (rs := [4]) (by kernel_rfl) (by simp) ?_
    refine AllReadyH.cons (o := { dst := some 9, op := Op.call { callee := Callee.value (Operand.func 22), args := #[Operand.tmp 6, Operand.tmp 8], argTypes := #[25, 36] }, type := 25, pos := "node.go:209", after := #[{ on := 1, ground := Ground.data }, { on := 3, ground := Ground.data }, { on := 1, ground := Ground.chain }], guard := none }) rfl (fun K hK => ?_) AllReadyH.nil
    go_wp2_with fail
    refine (aq_any F (by rw [gr34.tape, hg1.tape]; exact hF) hr35 (Nat.le_trans hB (Nat.le_trans hg1.size gr34.size)) (by simp [sChal]; omega) hq (hs1.kept gr34 hxv)).mono ?_
    rintro e w38 ⟨v37, rfl, hr39, hg40, ho41⟩
    have gr42 := ow7.grown gr34 hg40
    have ow43 := ow7.trans gr34.size ho41
    have nb44 := nb32.kept hg40 ne33
    have ne45 := Own.ne ho41 nb32.lt ne33
    refine hK.out _ _ (chal_S (hb1.kept gr42 hgv) hq) (fun hS46 => ?_)
    clear hK K
    refine wpAnyH_ready (rs := [9]) (by kernel_rfl) (by simp) ?_
    refine AllReadyH.cons (o := { dst := some 14, op := Op.call { callee := Callee.value (Operand.func 15), args := #[Operand.tmp 9, Operand.const (Value.string { data := #[32, 37, 100, 10] }), Operand.tmp 13], argTypes := #[25, 9, 64] }, type := 25, pos := "node.go:209", after := #[{ on := 4, ground := Ground.data }, { on := 8, ground := Ground.data }, { on := 4, ground := Ground.chain }], guard := none }) rfl (fun K hK => ?_) AllReadyH.nil
    go_wp2_with fail
    refine (af_ksi F (by rw [gr42.tape, hg1.tape]; exact hF) hr39 (Nat.le_trans hB (Nat.le_trans hg1.size gr42.size)) (by have := hql; simp [sChal]; omega) nb44 hk).mono ?_
    rintro e w48 ⟨v47, rfl, hr49, hg50, ho51⟩
    have gr52 := ow43.grown gr42 hg50
    have ow53 := ow43.trans gr42.size ho51
    have nb54 := nb44.kept hg50 ne45
    have ne55 := Own.ne ho51 nb44.lt ne45
    refine hK.out _ _ (chal_S (hb1.kept gr52 hgv) hq) (fun hS56 => ?_)
    clear hK K
    refine wpAnyH_take (i := 10) (oi := { dst := some 4, op := Op.assign (Operand.tmp 14), type := 25, pos := "node.go:209", after := #[{ on := 9, ground := Ground.data }, { on := 9, ground := Ground.chain }, { on := 0, ground := Ground.phase }, { on := 1, ground := Ground.phase }, { on := 2, ground := Ground.phase }, { on := 3, ground := Ground.phase }, { on := 4, ground := Ground.phase }, { on := 5, ground := Ground.phase }, { on := 6, ground := Ground.phase }, { on := 7, ground := Ground.phase }, { on := 8, ground := Ground.phase }, { on := 9, ground := Ground.phase }], guard := none }) (v := v47) rfl (by kernel_rfl) (by kernel_rfl) (by kernel_rfl) (fun _ _ _ h => h) (Or.inl ⟨by rfl, ?_⟩) hS56 ?_
    · intro w hSw; go_simp
    simp only [Act.put, List.setIfInBounds_toArray, List.set_cons_zero, List.set_cons_succ]
    refine wpAnyH_done (by kernel_rfl) ?_ _
    refine NoPanic.normal ?_
    go_wp2
    go_ret
    refine ⟨_, rfl, ?_, grown_first hg1 gr52, ow53.older hg1.size⟩
    have e : l ++ (sChal ++ tQuin q.r q.t q.c q.i q.a ++ tKsi k) = l ++ sChal ++ tQuin q.r q.t q.c q.i q.a ++ tKsi k := by simp
    rw [e]; exact hr49
  refine AllReadyH.cons (o := { dst := some 13, op := Op.buildSlice 64 1 #[(0, Operand.tmp 12)], type := 64, pos := "node.go:209", after := #[{ on := 7, ground := Ground.data }], guard := none }) rfl (fun K hK => ?_) AllReadyH.nil
  go_simp
  have nb57 := Blk.new w1.drew 20 [.iface 3 (.int .i64 k)]
  have ne58 : some w1.drew.heap.size ≠ (v).ownBlock := fun e => by have := (hr1.lt _ e.symm).2; omega
  have gr59 := grown_trans (row := v.ownBlock) gr0 (World.grownBy_alloc w1.drew (.cells #[.iface 3 (.int .i64 k)] 20) v.ownBlock) (.inl rfl)
  have hr60 := hr1.alloc (.cells #[.iface 3 (.int .i64 k)] 20)
  refine hK.out _ _ (chal_S (hb1.kept gr59 hgv) hq) (fun hS61 => ?_)
  clear hK K
  refine wpAnyH_ready (rs := [1]) (by kernel_rfl) (by simp) ?_
  refine AllReadyH.cons (o := { dst := some 6, op := Op.call { callee := Callee.builtin Builtin.append, args := #[Operand.tmp 5, Operand.const (Value.string { data := #[99, 104, 97, 108, 108, 101, 110, 103, 101, 32] })], argTypes := #[25, 9] }, type := 25, pos := "node.go:209", after := #[{ on := 0, ground := Ground.data }], guard := none }) rfl (fun K hK => ?_) AllReadyH.nil
  rw [if_pos (by rfl)]
  refine wp_app_str (v := v) _ _ rfl rfl hr60 ⟨sChal.toArray⟩ rfl (by simp [sChal]; omega) (Nat.le_trans hB (Nat.le_trans hg1.size gr59.size)) ?_
  intro v62 w63 hr64 hg65 ho66
  have gr67 := (Own.refl w1 v).grown gr59 hg65
  have ow68 := (Own.refl w1 v).trans gr59.size (Own.of ho66)
  have nb69 := nb57.kept hg65 ne58
  have ne70 := Own.ne (Own.of ho66) nb57.lt ne58
  refine hK.out _ _ (chal_S (hb1.kept gr67 hgv) hq) (fun hS71 => ?_)
  clear hK K
  simp only [Act.put, List.setIfInBounds_toArray, List.set_cons_zero, List.set_cons_succ]
  refine wpAnyH_ready (rs := [4]) (by kernel_rfl) (by simp) ?_
  refine AllReadyH.cons (o := { dst := some 9, op := Op.call { callee := Callee.value (Operand.func 22), args := #[Operand.tmp 6, Operand.tmp 8], argTypes := #[25, 36] }, type := 25, pos := "node.go:209", after := #[{ on := 1, ground := Ground.data }, { on := 3, ground := Ground.data }, { on := 1, ground := Ground.chain }], guard := none }) rfl (fun K hK => ?_) AllReadyH.nil
  go_wp2_with fail
  refine (aq_any F (by rw [gr67.tape, hg1.tape]; exact hF) hr64 (Nat.le_trans hB (Nat.le_trans hg1.size gr67.size)) (by simp [sChal]; omega) hq (hs1.kept gr67 hxv)).mono ?_
  rintro e w73 ⟨v72, rfl, hr74, hg75, ho76⟩
  have gr77 := ow68.grown gr67 hg75
  have ow78 := ow68.trans gr67.size ho76
  have nb79 := nb69.kept hg75 ne70
  have ne80 := Own.ne ho76 nb69.lt ne70
  refine hK.out _ _ (chal_S (hb1.kept gr77 hgv) hq) (fun hS81 => ?_)
  clear hK K
  refine wpAnyH_ready (rs := [9]) (by kernel_rfl) (by simp) ?_
  refine AllReadyH.cons (o := { dst := some 14, op := Op.call { callee := Callee.value (Operand.func 15), args := #[Operand.tmp 9, Operand.const (Value.string { data := #[32, 37, 100, 10] }), Operand.tmp 13], argTypes := #[25, 9, 64] }, type := 25, pos := "node.go:209", after := #[{ on := 4, ground := Ground.data }, { on := 8, ground := Ground.data }, { on := 4, ground := Ground.chain }], guard := none }) rfl (fun K hK => ?_) AllReadyH.nil
  go_wp2_with fail
  refine (af_ksi F (by rw [gr77.tape, hg1.tape]; exact hF) hr74 (Nat.le_trans hB (Nat.le_trans hg1.size gr77.size)) (by have := hql; simp [sChal]; omega) nb79 hk).mono ?_
  rintro e w83 ⟨v82, rfl, hr84, hg85, ho86⟩
  have gr87 := ow78.grown gr77 hg85
  have ow88 := ow78.trans gr77.size ho86
  have nb89 := nb79.kept hg85 ne80
  have ne90 := Own.ne ho86 nb79.lt ne80
  refine hK.out _ _ (chal_S (hb1.kept gr87 hgv) hq) (fun hS91 => ?_)
  clear hK K
  refine wpAnyH_take (i := 10) (oi := { dst := some 4, op := Op.assign (Operand.tmp 14), type := 25, pos := "node.go:209", after := #[{ on := 9, ground := Ground.data }, { on := 9, ground := Ground.chain }, { on := 0, ground := Ground.phase }, { on := 1, ground := Ground.phase }, { on := 2, ground := Ground.phase }, { on := 3, ground := Ground.phase }, { on := 4, ground := Ground.phase }, { on := 5, ground := Ground.phase }, { on := 6, ground := Ground.phase }, { on := 7, ground := Ground.phase }, { on := 8, ground := Ground.phase }, { on := 9, ground := Ground.phase }], guard := none }) (v := v82) rfl (by kernel_rfl) (by kernel_rfl) (by kernel_rfl) (fun _ _ _ h => h) (Or.inl ⟨by rfl, ?_⟩) hS91 ?_
  · intro w hSw; go_simp
  simp only [Act.put, List.setIfInBounds_toArray, List.set_cons_zero, List.set_cons_succ]
  refine wpAnyH_done (by kernel_rfl) ?_ _
  refine NoPanic.normal ?_
  go_wp2
  go_ret
  refine ⟨_, rfl, ?_, grown_first hg1 gr87, ow88.older hg1.size⟩
  have e : l ++ (sChal ++ tQuin q.r q.t q.c q.i q.a ++ tKsi k) = l ++ sChal ++ tQuin q.r q.t q.c q.i q.a ++ tKsi k := by simp
  rw [e]; exact hr84
end Go.Proofs.YbulkfhtoFmt.A
