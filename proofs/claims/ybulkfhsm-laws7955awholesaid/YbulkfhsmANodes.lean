/-
  (numbering).nodes.
-/
import Derived.Test.YbulkfhsmARank
import Derived.Test.YbulkfhsmASort
namespace Go.Proofs.Ybulkfhsm.A
open Go.RowKit
attribute [local go_sem ↓] Go.wp_at_zero Go.wp_at_succ

/-- The row of the nodes' transactions. -/
def Vals (d : Dat) (p : Nat → Nat) (j : Nat) (E : Nat → Int) : Prop := ∀ q, q < j → d.left (p q) = false → E (d.pos p q) = d.V (p q)

/-- What nodes hands back. -/
def Nodes (w : World) (d : Dat) (e : Ending) (w' : World) : Prop :=
  ∃ g v E p, e = .returned (.tuple #[.slice (some ⟨g, 0, none⟩) d.nt d.nt, v]) ∧ w.heap.size ≤ g ∧ Blk w' g 21 (rowF (fun t => .int .i32 (d.node t)) d.nt) ∧
    w'.ownsRow w.heap.size 25 1 v d.total (rowF (fun i => .int .i32 (E i)) d.total) ∧ Ord d p ∧ Vals d p d.nt E ∧ Below w.heap.size w w'

def putI (f : Nat → Int) (i : Nat) (x : Int) : Nat → Int := fun j => if j = i then x else f j

theorem vals_step {d : Dat} {p : Nat → Nat} {j : Nat} {E : Nat → Int} (h : Vals d p j E) (hl : d.left (p j) = false) : Vals d p (j + 1) (putI E (d.pos p j) (d.V (p j))) := by
  intro q hq hlq
  unfold putI
  by_cases e : q = j
  · subst e; rw [if_pos rfl]
  · have := pos_strict d p (show q < j by omega) hlq
    rw [if_neg (by omega)]
    exact h q (by omega) hlq
theorem vals_skip {d : Dat} {p : Nat → Nat} {j : Nat} {E : Nat → Int} (h : Vals d p j E) (hl : d.left (p j) = true) : Vals d p (j + 1) E := by
  intro q hq hlq
  by_cases e : q = j
  · subst e; rw [hl] at hlq; cases hlq
  · exact h q (by omega) hlq

def NodeUp (d : Dat) (p : Nat → Nat) (j : Nat) (nd : Nat → Int) : Prop := ∀ q, q < j → nd (p q) = d.node (p q)

theorem nodeUp_step {d : Dat} {p : Nat → Nat} {j : Nat} {nd : Nat → Int} (ho : Ord d p) (hj : j < d.nt) (h : NodeUp d p j nd) (x : Int) (hx : x = d.node (p j)) : NodeUp d p (j + 1) (putI nd (p j) x) := by
  intro q hq
  unfold putI
  by_cases e : q = j
  · subst e; rw [if_pos rfl, hx]
  · rw [if_neg (fun e' => e (ho.inj (by omega) hj e'))]
    exact h q (by omega)

theorem putV_int (f : Nat → Int) (i : Nat) (x : Int) : putV (fun t => .int .i32 (f t)) i (.int .i32 x) = fun t => .int .i32 (putI f i x t) := by
  funext t
  unfold putV putI
  by_cases e : t = i <;> simp [e]

theorem putI_putI (f : Nat → Int) (i : Nat) (x y : Int) : putI (putI f i x) i y = putI f i y := by
  funext t; unfold putI; by_cases e : t = i <;> simp [e]

theorem own_mono {W : World} {lo lo' e k n : Nat} {v : Value} {xs : List Value} (h : W.ownsRow lo e k v n xs) (hl : lo' ≤ lo) : W.ownsRow lo' e k v n xs := by
  refine ⟨h.1, ?_⟩
  rcases h.2 with h1 | ⟨g, cap, cur, h1, h2, h3⟩
  · exact .inl h1
  · exact .inr ⟨g, cap, cur, h1, by omega, h3⟩

theorem own_ne {W : World} {lo e k n g ty : Nat} {v : Value} {xs l : List Value} (h : W.ownsRow lo e k v n xs) (hb : Blk W g ty l) (ht : ty ≠ e) : some g ≠ v.ownBlock := by
  intro e'
  rcases h.2 with ⟨rfl, _⟩ | ⟨g', cap, cur, rfl, _, hh, _⟩
  · simp [Value.ownBlock] at e'
  · simp only [Value.ownBlock, Option.some.injEq] at e'
    subst e'
    unfold Blk at hb
    rw [hb] at hh
    simp at hh
    exact ht hh.2

theorem own_set {W : World} {lo e k n g ty : Nat} {v : Value} {xs l : List Value} (h : W.ownsRow lo e k v n xs) (hb : Blk W g ty l) (ht : ty ≠ e) (o : Nat) (u : Value) : (W.setCell ⟨g, o, none⟩ u).ownsRow lo e k v n xs :=
  h.kept (grown_set W ⟨g, o, none⟩ u) (.inr fun e' => own_ne h hb ht e'.symm)

theorem slice_form {W : World} {lo e sz : Nat} {v : Value} {n : Nat} {xs : List Value} (h : W.ownsRow lo e sz v n xs) : ∃ a cap, v = .slice a n cap := by
  rcases h.2 with ⟨rfl, rfl⟩ | ⟨g, cap, cur, rfl, _⟩
  · exact ⟨none, 0, rfl⟩
  · exact ⟨_, cap, rfl⟩

/-- The loop's state behind j of the ascending list. -/
structure Nd (w2 : World) (d : Dat) (p : Nat → Nat) (gn j : Nat) (v : Value) (E nd : Nat → Int) (W : World) : Prop where
  own : W.ownsRow gn 25 1 v (d.pos p j) (rowF (fun i => .int .i32 (E i)) (d.pos p j))
  vals : Vals d p j E
  blk : Blk W gn 21 (rowF (fun t => .int .i32 (nd t)) d.nt)
  bel : Below gn w2 W

set_option maxRecDepth 100000 in
set_option maxHeartbeats 4000000 in
theorem nodes_any {w : World} {d : Dat} {gh go gt gv cv ga : Nat} (ok : d.Ok) (h : Lies w d gh go gt gv) (hab : Blk w ga 4 (rowF (fun t => .bool (d.left t)) d.nt)) :
    Calls Yba.prog 20 #[d.agg go gt gv cv, .slice (some ⟨ga, 0, none⟩) d.nt d.nt] w (Nodes w d) := by
  have t0 : (0 : Int) ≤ (d.nt : Int) := by omega
  have t1 : (d.nt : Int) ≤ 4096 := by have := ok.hnt; omega
  obtain ⟨i21, hi, hz0, hz1, hz2⟩ := info_parts info21
  have hnt := ok.hnt
  have hpos := ok.pos
  unfold Dat.agg
  go_enter Yba.func20, Yba.ntmps20
  go_upto_region 1 with (fail)
  obtain ⟨s, es⟩ : ∃ s, s = w.heap.size := ⟨_, rfl⟩
  have b0 := Blk.new w 37 [.slice (some ⟨go, 0, none⟩) d.N d.N, .int .i64 (d.objects : Int), .slice (some ⟨gt, 0, none⟩) d.N d.N, .slice (some ⟨gv, 0, none⟩) d.nt cv]
  have hB0 : Below w.heap.size w (w.alloc (.cells [Value.slice (some ⟨go, 0, none⟩) d.N d.N, .int .i64 (d.objects : Int), .slice (some ⟨gt, 0, none⟩) d.N d.N, .slice (some ⟨gv, 0, none⟩) d.nt cv].toArray 37)) := (Below.refl _ w).alloc (Nat.le_refl _) _
  have h0 := h.below hB0
  have hab0 := hab.below hB0 hab.lt
  generalize (w.alloc (.cells [Value.slice (some ⟨go, 0, none⟩) d.N d.N, .int .i64 (d.objects : Int), .slice (some ⟨gt, 0, none⟩) d.N d.N, .slice (some ⟨gv, 0, none⟩) d.nt cv].toArray 37)) = w0 at b0 hB0 h0 hab0 ⊢
  rw [← es] at b0 hB0 ⊢
  have ES := hide es
  have c3 : w0.cell? ⟨s, 3, none⟩ = some (.slice (some ⟨gv, 0, none⟩) d.nt cv) := b0.cell rfl
  clear es
  go_cut [6] from 10 to 30 (fun v W => v = .slice (some ⟨w0.heap.size, 0, none⟩) d.nt d.nt ∧ Blk W w0.heap.size 21 (rowF (fun _ => .int .i32 0) d.nt) ∧ w0.grownBy W none)
  case first =>
    go_wp2_with (at_make; refine wpList_make_full _ rfl _ _ 23 rfl 0 21 i21 _ 1 Yba.underlying23 hi hz0 hz1 .i64 .i64 _ _ d.nt rfl rfl rfl rfl (by rw [hz2]; omega) (by unfold maxLen; omega) (Nat.zero_le _) ?_; intro w1 hown1 hg1)
    go_meet
    case rel => exact ⟨rfl, made_row rfl hown1, hg1⟩
  case rest =>
  obtain ⟨rfl, hb1, hg1⟩ := hcut
  obtain ⟨g, eg⟩ : ∃ g, g = w0.heap.size := ⟨_, rfl⟩
  rw [← eg] at hb1 ⊢
  have hB1 : Below g w0 wc := by rw [eg]; exact Below.grown (Below.refl _ w0) hg1 (Nat.le_refl _) (by simp)
  have EG := hide eg
  have hsg : s < g := by rw [eg]; exact b0.lt
  have hag : ga < g := by rw [eg]; exact hab0.lt
  clear eg hg1 c3
  go_upto_block 0 with (fail)
  go_cut [7] from 16 to 30 (fun _ W => Blk W g 21 (rowF (fun t => .int .i32 (t : Int)) d.nt) ∧ Below g w0 W)
  case first =>
    go_wp2_with fail
    go_loopw [16] (fun x W => ∃ (i : Nat) (f : Nat → Int), x = .int .i64 (i : Int) ∧ i ≤ d.nt ∧ Blk W g 21 (rowF (fun t => .int .i32 (f t)) d.nt) ∧ (∀ t, t < i → f t = (t : Int)) ∧ Below g w0 W) (fun x _ => d.nt - (intOf x).toNat)
    case atStart => exact ⟨0, fun _ => 0, rfl, by omega, hb1, by omega, hB1⟩
    case round =>
      clear hb1 hB1
      obtain ⟨i, f, rfl, hi, hb1, hf, hB1⟩ := hrel
      have HF := hide hf
      clear hf
      have i0 : (0 : Int) ≤ (i : Int) := by omega
      by_cases hlt : i < d.nt
      · have i1 : (i : Int) < (d.nt : Int) := by omega
        have i2 : (i : Int) ≤ 4096 := by omega
        have cg := hb1.at hlt
        have fg := hb1.frozen
        go_wp2
        refine ⟨⟨i + 1, putI f i (i : Int), by go_num, by omega, ?_, fun t ht => ?_, hB1.setCell (Nat.le_refl _) _⟩, by simp [intOf]; omega⟩
        · rw [← putV_int]; exact hb1.put _ _
        · unfold putI
          by_cases e : t = i
          · rw [if_pos e, e]
          · rw [if_neg e]; exact HF.out t (by omega)
      · have i1 : ¬ (i : Int) < (d.nt : Int) := by omega
        obtain rfl : i = d.nt := by omega
        go_wp2
        go_meet
        case rel => exact ⟨by rw [rowF_congr (f' := fun t => .int .i32 (f t)) (fun t ht => by rw [HF.out t ht])]; exact hb1, hB1⟩
  case rest =>
  clear hb1 hB1
  obtain ⟨hb1, hB1⟩ := hcut
  have hL := h0.below (W' := wc) (by rw [← EG.out]; exact hB1)
  have c3 : wc.cell? ⟨s, 3, none⟩ = some (.slice (some ⟨gv, 0, none⟩) d.nt cv) := (b0.below hB1 hsg).cell rfl
  have hgv : gv < g := by rw [EG.out]; exact World.block_lt_of_cell? _ _ (h0.tv 0 hpos)
  go_wp2_with fail
  refine (sort_any ok hb1 c3 (by omega) (fun t ht => hL.tv t ht) (by omega)).mono ?_
  rintro e w2 ⟨rfl, p, hO, hp, hg2⟩
  have hB2 : Below g w0 w2 := hB1.grown hg2 (Nat.le_of_lt hb1.lt) (fun k e => by cases e; omega)
  clear hb1 hB1 hL c3
  have c3 : w2.cell? ⟨s, 3, none⟩ = some (.slice (some ⟨gv, 0, none⟩) d.nt cv) := (b0.below hB2 hsg).cell rfl
  go_upto_region 8 with (fail)
  go_cut [4] from 28 to 62 (fun v W => v = .slice (some ⟨w2.heap.size, 0, none⟩) d.nt d.nt ∧ Blk W w2.heap.size 21 (rowF (fun _ => .int .i32 0) d.nt) ∧ w2.grownBy W none)
  case first =>
    go_wp2_with (at_make; refine wpList_make_full _ rfl _ _ 23 rfl 0 21 i21 _ 1 Yba.underlying23 hi hz0 hz1 .i64 .i64 _ _ d.nt rfl rfl rfl rfl (by rw [hz2]; omega) (by unfold maxLen; omega) (Nat.zero_le _) ?_; intro w1 hown1 hg1)
    go_meet
    case rel => exact ⟨rfl, made_row rfl hown1, hg1⟩
  case rest =>
  clear c3
  obtain ⟨rfl, hb1, hg1⟩ := hcut
  obtain ⟨gn, eg⟩ : ∃ g, g = w2.heap.size := ⟨_, rfl⟩
  rw [← eg] at hb1 ⊢
  have hB1 : Below gn w2 wc := by rw [eg]; exact Below.grown (Below.refl _ w2) hg1 (Nat.le_refl _) (by simp)
  have hgn : g < gn := by rw [eg]; exact World.block_lt_of_cell? _ _ (hp 0 hpos)
  have EN := hide eg
  have HP := hide hp
  have HO := hide hO
  have b2 := b0.below hB2 hsg
  have hab2 := hab0.below hB2 hag
  have hL2 := h0.below (by rw [← EG.out]; exact hB2)
  obtain ⟨i25, ji, jz0, jz1, jz2⟩ := info_parts info25
  clear eg hg1 hi hz0 hz1 hz2 hp hO hg2
  go_upto_block 2 with (fail)
  go_cut [5, 9] from 34 to 60 (fun v _ W => ∃ E nd, Nd w2 d p gn d.nt v E nd W ∧ NodeUp d p d.nt nd)
  case first =>
    go_wp2_with fail
    go_loopw [5, 34] (fun v x W => ∃ (j : Nat) (E nd : Nat → Int), x = .int .i64 (j : Int) ∧ j ≤ d.nt ∧ Nd w2 d p gn j v E nd W ∧ NodeUp d p j nd) (fun _ x _ => d.nt - (intOf x).toNat)
    case atStart => exact ⟨0, fun _ => 0, fun _ => 0, rfl, by omega, ⟨by simpa [Dat.pos, rowF] using World.ownsRow_nil _ _ _ _, fun q hq => by omega, hb1, hB1⟩, fun q hq => by omega⟩
    case round =>
      clear hb1 hB1
      obtain ⟨j, E, nd, rfl, hj, hN, hU⟩ := hrel
      have HU := hide hU
      clear hU
      have i0 : (0 : Int) ≤ (j : Int) := by omega
      by_cases hlt : j < d.nt
      · have i1 : (j : Int) < (d.nt : Int) := by omega
        have i2 : (j : Int) ≤ 4096 := by omega
        have hpj := HO.out.lt hlt
        have p0 : (0 : Int) ≤ (p j : Int) := by omega
        have p1 : (p j : Int) < (d.nt : Int) := by omega
        have hps := pos_le d p j
        have q0 : wr.cell? ⟨g, j, none⟩ = some (.int .i32 (p j : Int)) := (World.cell?_of_block (hN.bel.block g hgn)).trans (HP.out j hlt)
        have cn := hN.blk.at hpj
        have fn := hN.blk.frozen
        go_upto_region 12 with (fail)
        go_cut [] from 36 to 60 (fun W => Nd w2 d p gn j u5 E (putI nd (p j) (-1)) W)
        case first =>
          go_wp2
          go_meet
          case rel => exact ⟨own_set hN.own hN.blk (by decide) _ _, hN.vals, by rw [← putV_int]; exact hN.blk.put _ _, hN.bel.setCell (Nat.le_refl _) _⟩
        case rest =>
        clear hN cn fn q0
        have hN := hcut
        clear hcut
        have ca : wc.cell? ⟨ga, p j, none⟩ = some (.bool (d.left (p j))) := (hab2.below hN.bel (by omega)).at hpj
        by_cases hl : d.left (p j) = true
        · rw [hl] at ca
          have HL := hide hl
          clear hl
          go_wp2
          have e1 : d.pos p (j + 1) = d.pos p j := by rw [pos_succ, if_pos HL.out]; rfl
          refine ⟨⟨j + 1, E, _, by go_num, by omega, ⟨by rw [e1]; exact hN.own, vals_skip hN.vals HL.out, hN.blk, hN.bel⟩, nodeUp_step HO.out hlt HU.out _ ?_⟩, by simp [intOf]; omega⟩
          rw [Dat.node, if_pos HL.out]
        · have hl' : d.left (p j) = false := by simpa using hl
          rw [hl'] at ca
          have HL := hide hl'
          clear hl hl'
          obtain ⟨va, vcap, rfl⟩ := slice_form hN.own
          have cn := hN.blk.at hpj
          have fn := hN.blk.frozen
          have s1 : (d.pos p j : Int) ≤ 4096 := by omega
          have s0 : (0 : Int) ≤ (d.pos p j : Int) := by omega
          go_upto_region 14 with (fail)
          go_cut [] from 36 to 60 (fun W => Nd w2 d p gn j (.slice va (d.pos p j) vcap) E (putI nd (p j) (d.pos p j : Int)) W)
          case first =>
            go_wp2
            go_meet
            case rel => exact ⟨own_set hN.own hN.blk (by decide) _ _, hN.vals, by rw [← putI_putI nd (p j) (-1), ← putV_int]; exact hN.blk.put _ _, hN.bel.setCell (Nat.le_refl _) _⟩
          case rest =>
          clear hN cn fn ca
          have hN := hcut
          clear hcut
          have c3 : wc.cell? ⟨s, 3, none⟩ = some (.slice (some ⟨gv, 0, none⟩) d.nt cv) := (b2.below hN.bel (by omega)).cell rfl
          have cv2 : wc.cell? ⟨gv, p j, none⟩ = some (.int .i32 (d.V (p j))) := (World.cell?_of_block (hN.bel.block gv (by omega))).trans (hL2.tv _ hpj)
          have hbl := hN.blk.lt
          go_wp2_with (at_builtin; refine wpList_append_lies _ rfl _ _ 24 rfl gn 25 i25 _ 1 4 Yba.underlying24 ji jz0 jz1 jz2 rfl (by omega) _ (d.pos p j) (rowF (fun i => .int .i32 (E i)) (d.pos p j)) rfl (by exact hN.own.alloc _) _ 1 1 [.int .i32 (d.V (p j))] rfl rfl (by exact World.news_of_block (heap_alloc_new _ _)) (by simp [Value.oneCell']) (by omega) (by simp only [maxLen]; omega) (by omega) (by simp only [World.size_alloc]; omega) _ rfl ?_; intro g' cap' w3 hown hgrow hat hlt3)
          have e1 : d.pos p (j + 1) = d.pos p j + 1 := by rw [pos_succ, if_neg (by rw [HL.out]; decide)]
          have hne := own_ne hN.own hN.blk (by decide)
          refine ⟨⟨j + 1, putI E (d.pos p j) (d.V (p j)), _, by go_num, by omega, ⟨?_, vals_step hN.vals HL.out, (hN.blk.alloc _).kept hgrow hne, Below.grown (hN.bel.alloc (by omega) _) hgrow (by simp only [World.size_alloc]; omega) (fun k e => (hN.own.lt k e).1)⟩, nodeUp_step HO.out hlt HU.out _ ?_⟩, by simp [intOf]; omega⟩
          · rw [e1, rowF_succ, rowF_congr (f' := fun i => .int .i32 (E i)) (fun i hi => by simp only [putI]; rw [if_neg (by omega)])]
            simp only [putI]
            exact hown
          · rw [Dat.node, if_neg (by rw [HL.out]; decide), HO.out.rank hlt]
      · have i1 : ¬ (j : Int) < (d.nt : Int) := by omega
        obtain rfl : j = d.nt := by omega
        go_wp2
        go_meet
        case rel => exact ⟨E, nd, hN, HU.out⟩
  case rest =>
  clear hb1 hB1
  obtain ⟨E, nd, hN, hU⟩ := hcut
  have HU := hide hU
  clear hU
  go_wp2
  refine bodyPost_ret (results_tmp2 rfl _ _ _) rfl ?_
  have hsw : w.heap.size ≤ gn := by rw [← ES.out]; omega
  refine ⟨gn, _, E, p, rfl, hsw, ?_, ?_, HO.out, hN.vals, ?_⟩
  · rw [rowF_congr (f' := fun t => .int .i32 (nd t)) (fun t ht => by
      obtain ⟨q, hq, rfl⟩ := HO.out.sur ht
      rw [HU.out q hq])]
    exact hN.blk
  · rw [HO.out.total]
    exact own_mono hN.own hsw
  · rw [← ES.out]
    exact hB0.trans ((hB2.mono (by omega)).trans (hN.bel.mono (by omega)))
end Go.Proofs.Ybulkfhsm.A
