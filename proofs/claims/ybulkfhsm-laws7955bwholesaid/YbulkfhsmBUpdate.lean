/-
  The function update: it works out the three derived fields of one node; of the pool nothing else turns.
-/
import Derived.Test.YbulkfhsmBSmall
import Derived.Deep.RegionHeld3
import Derived.Deep.DrawnRows
import Derived.Deep.CutRange
import Derived.Deep.RegionWith
namespace Go.Proofs.Ybulkfhsm.B
open Go.RowKit
attribute [local go_sem ↓] Go.wp_at_zero Go.wp_at_succ

theorem idx0 (x0 x1 : Value) (w : World) : (Instr.index 56 (.agg #[x0, x1]) (.int .i64 0)).run Yba.prog w = .ok x0 w := by kernel_rfl
theorem idx1 (x0 x1 : Value) (w : World) : (Instr.index 56 (.agg #[x0, x1]) (.int .i64 1)).run Yba.prog w = .ok x1 w := by kernel_rfl

/-- The node i as 'update' leaves it. -/
def upNd (d : Nd) (a b f : Int) : Nd := { d with least := a, lex := b, fex := f }

/-- The state between two rounds of update's loop. -/
def Mid (w W : World) (base s B n cap : Nat) (ns : Nat → Nd) (i : Nat) (f0 : Int) : Prop :=
  ∃ (a : Nat) (b : Int), a < n ∧ Ref n b ∧ Pool W base s (.slice (some ⟨B, 0, none⟩) n cap) n (upd ns i (upNd (ns i) a b f0)) ∧ w.grownBy W (some B)

theorem Mid.drewN {w W : World} {base s B n cap : Nat} {ns : Nat → Nd} {i : Nat} {f0 : Int} (h : Mid w W base s B n cap ns i f0) (k : Nat) : Mid w (W.drewN k) base s B n cap ns i f0 := by
  obtain ⟨a, b, ha, hb, hP, hg⟩ := h
  exact ⟨a, b, ha, hb, ⟨hP.own, hP.hd, hP.ne⟩, ⟨hg.os, hg.tape, hg.output, hg.size, hg.block⟩⟩

theorem mid_start {w : World} {base s B n cap : Nat} {ns : Nat → Nd} (hP : Pool w base s (.slice (some ⟨B, 0, none⟩) n cap) n ns) (i : Nat) (hi : i < n) :
    Mid w (((w.setCell ⟨B, i * 10 + 7, none⟩ (.int .i32 i)).setCell ⟨B, i * 10 + 8, none⟩ (.int .i32 (-1))).setCell ⟨B, i * 10 + 9, none⟩ (.int .i32 (-1))) base s B n cap ns i (-1) := by
  obtain ⟨p1, q1⟩ := hP.store hi (k := 7) (by omega) (.int .i32 i) { ns i with least := i } rfl
  obtain ⟨p2, q2⟩ := p1.store hi (k := 8) (by omega) (.int .i32 (-1)) { ns i with least := i, lex := -1 } (by simp [upd_same, Nd.cells])
  obtain ⟨p3, q3⟩ := p2.store hi (k := 9) (by omega) (.int .i32 (-1)) { ns i with least := i, lex := -1, fex := -1 } (by simp [upd_same, Nd.cells])
  rw [upd_upd, upd_upd] at p3
  exact ⟨i, -1, hi, .inl rfl, p3, grown_trans (grown_trans q1 q2) q3⟩

theorem mid_start2 {w : World} {base s B n cap : Nat} {ns : Nat → Nd} (hP : Pool w base s (.slice (some ⟨B, 0, none⟩) n cap) n ns) (i : Nat) (hi : i < n) :
    Mid w (((((w.setCell ⟨B, i * 10 + 7, none⟩ (.int .i32 i)).setCell ⟨B, i * 10 + 8, none⟩ (.int .i32 (-1))).setCell ⟨B, i * 10 + 9, none⟩ (.int .i32 (-1))).setCell ⟨B, i * 10 + 8, none⟩ (.int .i32 i)).setCell ⟨B, i * 10 + 9, none⟩ (.int .i32 i)) base s B n cap ns i i := by
  obtain ⟨a, b, ha, hb, p, q⟩ := mid_start hP i hi
  obtain ⟨p2, q2⟩ := p.store hi (k := 8) (by omega) (.int .i32 i) (upNd (ns i) a i (-1)) (by simp [upd_same, Nd.cells, upNd])
  obtain ⟨p3, q3⟩ := p2.store hi (k := 9) (by omega) (.int .i32 i) (upNd (ns i) a i i) (by simp [upd_same, Nd.cells, upNd])
  rw [upd_upd, upd_upd] at p3
  exact ⟨a, i, ha, .inr ⟨i, hi, rfl⟩, p3, grown_trans (grown_trans q q2) q3⟩

theorem grown_drewN {w W : World} {row : Option Nat} (hg : w.grownBy W row) (k : Nat) : w.grownBy (W.drewN k) row := ⟨hg.os, hg.tape, hg.output, hg.size, hg.block⟩
theorem Pool.drewN {w : World} {base s : Nat} {hdr : Value} {n : Nat} {ns : Nat → Nd} (h : Pool w base s hdr n ns) (k : Nat) : Pool (w.drewN k) base s hdr n ns := ⟨h.own, h.hd, h.ne⟩

theorem mid_lex {w W : World} {base s B n cap : Nat} {ns : Nat → Nd} {i a : Nat} {b f0 v : Int} (hQ : Pool W base s (.slice (some ⟨B, 0, none⟩) n cap) n (upd ns i (upNd (ns i) a b f0))) (hg : w.grownBy W (some B))
    (hi : i < n) (ha : a < n) (hv : Ref n v) (k : Nat) : Mid w ((W.drewN k).setCell ⟨B, i * 10 + 8, none⟩ (.int .i32 v)) base s B n cap ns i f0 := by
  obtain ⟨p2, q2⟩ := (hQ.drewN k).store hi (k := 8) (by omega) (.int .i32 v) (upNd (ns i) a v f0) (by simp [upd_same, Nd.cells, upNd])
  rw [upd_upd] at p2
  exact ⟨a, v, ha, hv, p2, grown_trans (grown_drewN hg _) q2⟩

theorem mid_fex {w W : World} {base s B n cap : Nat} {ns : Nat → Nd} {i a : Nat} {b f0 v : Int} (hQ : Pool W base s (.slice (some ⟨B, 0, none⟩) n cap) n (upd ns i (upNd (ns i) a b f0))) (hg : w.grownBy W (some B))
    (hi : i < n) (ha : a < n) (hb : Ref n b) : Mid w (W.setCell ⟨B, i * 10 + 9, none⟩ (.int .i32 v)) base s B n cap ns i v := by
  obtain ⟨p2, q2⟩ := hQ.store hi (k := 9) (by omega) (.int .i32 v) (upNd (ns i) a b v) (by simp [upd_same, Nd.cells, upNd])
  rw [upd_upd] at p2
  exact ⟨a, b, ha, hb, p2, grown_trans hg q2⟩

def fexF (ns : Nat → Nd) (f0 L R : Int) : Int :=
  if L ≠ -1 ∧ (ns L.toNat).fex ≠ -1 then (ns L.toNat).fex else if f0 = -1 ∧ R ≠ -1 then (ns R.toNat).fex else f0

def own0 (e : Bool) (i : Nat) : Int := if e then (i : Int) else -1

set_option maxRecDepth 100000 in
set_option maxHeartbeats 8000000 in
theorem update_core {w : World} {base s B n cap : Nat} {ns : Nat → Nd} (hP : Pool w base s (.slice (some ⟨B, 0, none⟩) n cap) n ns) (i : Nat) (hi : i < n)
    (L R f0 : Int) (ex : Bool) (HeL : Hid ((ns i).left = L)) (HeR : Hid ((ns i).right = R)) (HF : Hid (f0 = own0 ex i))
    (hL : Ref n L) (hR : Ref n R) (HL : Hid (L ≠ i)) (HR : Hid (R ≠ i))
    (hle : ∀ j, j < n → ∃ a : Nat, a < n ∧ (ns j).least = a) (hlx : ∀ j, j < n → Ref n (ns j).lex)
    (Hex : Hid ((ns i).excl = ex)) :
    Calls Yba.prog 25 #[.pointer (some ⟨s, 0, none⟩), .int .i32 (i : Int)] w fun e w' => e = .returned (.tuple #[]) ∧ Mid w w' base s B n cap ns i (fexF ns f0 L R) := by
  have g1 : (0 : Int) ≤ (i : Int) := by omega
  have g2 : (i : Int) < (n : Int) := by omega
  have h0 := hP.hd
  have c3 : w.cell? ⟨B, i * 10 + 3, none⟩ = some (.bool ex) := by rw [hP.cell hi (by omega), ← Hex.out]; rfl
  have c5 : w.cell? ⟨B, i * 10 + 5, none⟩ = some (.int .i32 L) := by rw [← HeL.out]; exact hP.cell hi (k := 5) (by omega)
  have c6 : w.cell? ⟨B, i * 10 + 6, none⟩ = some (.int .i32 R) := by rw [← HeR.out]; exact hP.cell hi (k := 6) (by omega)
  have c7 : w.cell? ⟨B, i * 10 + 7, none⟩ = some (.int .i32 (ns i).least) := hP.cell hi (k := 7) (by omega)
  have c8 : w.cell? ⟨B, i * 10 + 8, none⟩ = some (.int .i32 (ns i).lex) := hP.cell hi (k := 8) (by omega)
  have c9 : w.cell? ⟨B, i * 10 + 9, none⟩ = some (.int .i32 (ns i).fex) := hP.cell hi (k := 9) (by omega)
  have f := hP.frozen
  have i0 := idx0
  have i1 := idx1
  go_enter Yba.func25, Yba.ntmps25
  go_upto_if 26 with (fail)
  go_cut [] from 7 to 34 (fun W => Mid w W base s B n cap ns i f0)
  case first =>
    cases ex
    all_goals
      go_wp2
      go_meet
      case rel => rw [HF.out]; first | exact mid_start2 hP i hi | exact mid_start hP i hi
  case rest =>
    clear c3 c5 c6 c7 c8 c9 f h0
    obtain ⟨a, b, ha, hb, hQ, hg⟩ := hcut
    have c5 : wc.cell? ⟨B, i * 10 + 5, none⟩ = some (.int .i32 L) := by rw [hQ.cell hi (by omega), upd_same, ← HeL.out]; rfl
    have c6 : wc.cell? ⟨B, i * 10 + 6, none⟩ = some (.int .i32 R) := by rw [hQ.cell hi (by omega), upd_same, ← HeR.out]; rfl
    go_wp2
    go_quiet (fail)
    go_wp2
    clear c5 c6
    go_loopw [44] (fun t W => (t = .int .i64 0 ∨ t = .int .i64 1 ∨ t = .int .i64 2) ∧ Mid w W base s B n cap ns i f0) (fun t _ => 2 - (intOf t).toNat)
    case atStart => exact ⟨.inl rfl, a, b, ha, hb, hQ.drewN _, grown_drewN hg _⟩
    clear ha hb hQ hg
    case round =>
    obtain ⟨hk, a, b, ha, hb, hQ, hg⟩ := hrel
    have h0 := hQ.hd
    have c7 : wr.cell? ⟨B, i * 10 + 7, none⟩ = some (.int .i32 a) := by rw [hQ.cell hi (by omega), upd_same]; rfl
    have c8 : wr.cell? ⟨B, i * 10 + 8, none⟩ = some (.int .i32 b) := by rw [hQ.cell hi (by omega), upd_same]; rfl
    have f := hQ.frozen
    rcases hk with rfl | rfl | rfl
    · rcases hL with rfl | ⟨c, hc, rfl⟩
      · go_wp2
        exact ⟨⟨.inr (.inl rfl), a, b, ha, hb, hQ, hg⟩, by simp [intOf]⟩
      · have hci : c ≠ i := by intro e; exact HL.out (by rw [e])
        have hne : ((c : Int) != -1) = true := by simp
        obtain ⟨lc, hlc, elc⟩ := hle c hc
        have d7 : wr.cell? ⟨B, c * 10 + 7, none⟩ = some (.int .i32 lc) := by rw [hQ.cell hc (by omega), upd_other _ _ hci, ← elc]; rfl
        have g3 : (0 : Int) ≤ (c : Int) := by omega
        have g4 : (c : Int) < (n : Int) := by omega
        have hlxc := hlx c hc
        have Helc : Hid ((ns c).least = lc) := elc
        clear elc
        go_wp2
        go_cut [] from 45 to 83 (fun W => ∃ a' : Nat, a' < n ∧ Pool W base s (.slice (some ⟨B, 0, none⟩) n cap) n (upd ns i (upNd (ns i) a' b f0)) ∧ w.grownBy W (some B))
        case first =>
          go_region_with (go_at_call 31; refine (smaller_any (hQ.drew) (.inr ⟨a, ha, rfl⟩) (.inr ⟨lc, hlc, rfl⟩)).mono ?_; rintro e w' ⟨rfl, k, rfl⟩)
          all_goals
            go_wp2
            go_meet
            case rel =>
              obtain ⟨q, hq, eq⟩ := smallerF_nat (ns := upd ns i (upNd (ns i) a b f0)) ha hlc
              rw [eq]
              obtain ⟨p2, q2⟩ := (hQ.drewN (1 + k)).store hi (k := 7) (by omega) (.int .i32 q) (upNd (ns i) q b f0) (by simp [upd_same, Nd.cells, upNd])
              rw [upd_upd] at p2
              exact ⟨q, hq, p2, grown_trans (grown_drewN hg _) q2⟩
        case rest =>
          clear c7 c8 f h0 d7 hQ hg
          obtain ⟨a', ha', hQ, hg⟩ := hcut
          have h0 := hQ.hd
          have c8 : wc.cell? ⟨B, i * 10 + 8, none⟩ = some (.int .i32 b) := by rw [hQ.cell hi (by omega), upd_same]; rfl
          have d8 : wc.cell? ⟨B, c * 10 + 8, none⟩ = some (.int .i32 (ns c).lex) := by rw [hQ.cell hc (by omega), upd_other _ _ hci]; rfl
          have f := hQ.frozen
          go_wp2
          go_region_with (go_at_call 31; refine (smaller_any (hQ.drew) hb hlxc).mono ?_; rintro e w' ⟨rfl, k, rfl⟩)
          all_goals
            go_wp2
            exact ⟨⟨.inr (.inl rfl), mid_lex hQ hg hi ha' (smallerF_ref hb hlxc) _⟩, by simp [intOf]⟩
    · rcases hR with rfl | ⟨c, hc, rfl⟩
      · go_wp2
        exact ⟨⟨.inr (.inr rfl), a, b, ha, hb, hQ, hg⟩, by simp [intOf]⟩
      · have hci : c ≠ i := by intro e; exact HR.out (by rw [e])
        have hne : ((c : Int) != -1) = true := by simp
        obtain ⟨lc, hlc, elc⟩ := hle c hc
        have d7 : wr.cell? ⟨B, c * 10 + 7, none⟩ = some (.int .i32 lc) := by rw [hQ.cell hc (by omega), upd_other _ _ hci, ← elc]; rfl
        have g3 : (0 : Int) ≤ (c : Int) := by omega
        have g4 : (c : Int) < (n : Int) := by omega
        have hlxc := hlx c hc
        have Helc : Hid ((ns c).least = lc) := elc
        clear elc
        go_wp2
        go_cut [] from 45 to 83 (fun W => ∃ a' : Nat, a' < n ∧ Pool W base s (.slice (some ⟨B, 0, none⟩) n cap) n (upd ns i (upNd (ns i) a' b f0)) ∧ w.grownBy W (some B))
        case first =>
          go_region_with (go_at_call 31; refine (smaller_any (hQ.drew) (.inr ⟨a, ha, rfl⟩) (.inr ⟨lc, hlc, rfl⟩)).mono ?_; rintro e w' ⟨rfl, k, rfl⟩)
          all_goals
            go_wp2
            go_meet
            case rel =>
              obtain ⟨q, hq, eq⟩ := smallerF_nat (ns := upd ns i (upNd (ns i) a b f0)) ha hlc
              rw [eq]
              obtain ⟨p2, q2⟩ := (hQ.drewN (1 + k)).store hi (k := 7) (by omega) (.int .i32 q) (upNd (ns i) q b f0) (by simp [upd_same, Nd.cells, upNd])
              rw [upd_upd] at p2
              exact ⟨q, hq, p2, grown_trans (grown_drewN hg _) q2⟩
        case rest =>
          clear c7 c8 f h0 d7 hQ hg
          obtain ⟨a', ha', hQ, hg⟩ := hcut
          have h0 := hQ.hd
          have c8 : wc.cell? ⟨B, i * 10 + 8, none⟩ = some (.int .i32 b) := by rw [hQ.cell hi (by omega), upd_same]; rfl
          have d8 : wc.cell? ⟨B, c * 10 + 8, none⟩ = some (.int .i32 (ns c).lex) := by rw [hQ.cell hc (by omega), upd_other _ _ hci]; rfl
          have f := hQ.frozen
          go_wp2
          go_region_with (go_at_call 31; refine (smaller_any (hQ.drew) hb hlxc).mono ?_; rintro e w' ⟨rfl, k, rfl⟩)
          all_goals
            go_wp2
            exact ⟨⟨.inr (.inr rfl), mid_lex hQ hg hi ha' (smallerF_ref hb hlxc) _⟩, by simp [intOf]⟩
    · clear c7 c8
      have c5 : wr.cell? ⟨B, i * 10 + 5, none⟩ = some (.int .i32 L) := by rw [hQ.cell hi (by omega), upd_same, ← HeL.out]; rfl
      have c6 : wr.cell? ⟨B, i * 10 + 6, none⟩ = some (.int .i32 R) := by rw [hQ.cell hi (by omega), upd_same, ← HeR.out]; rfl
      have c9 : wr.cell? ⟨B, i * 10 + 9, none⟩ = some (.int .i32 f0) := by rw [hQ.cell hi (by omega), upd_same]; rfl
      rcases hL with rfl | ⟨l, hl, rfl⟩
      · have hd : ((-1 : Int) != -1) = false := rfl
        by_cases hf : f0 = -1
        · subst hf
          rcases hR with rfl | ⟨r, hr, rfl⟩
          · go_wp2
            go_quiet (fail)
            go_wp2
            go_end0
            refine ⟨rfl, ?_⟩
            have e : fexF ns (-1) (-1) (-1) = -1 := by unfold fexF; rw [if_neg (by simp), if_neg (by simp)]
            rw [e]
            exact ⟨a, b, ha, hb, hQ.drewN _, grown_drewN hg _⟩
          · have hri : r ≠ i := by intro e; exact HR.out (by rw [e])
            have hrn : ((r : Int) != -1) = true := by simp
            have r1 : (0 : Int) ≤ (r : Int) := by omega
            have r2 : (r : Int) < (n : Int) := by omega
            have e9 : wr.cell? ⟨B, r * 10 + 9, none⟩ = some (.int .i32 (ns r).fex) := by rw [hQ.cell hr (by omega), upd_other _ _ hri]; rfl
            go_wp2
            go_quiet (fail)
            go_wp2
            go_region
            all_goals
              go_wp2
              go_end0
              refine ⟨rfl, ?_⟩
              have e : fexF ns (-1) (-1) (r : Int) = (ns r).fex := by unfold fexF; rw [if_neg (by simp), if_pos ⟨rfl, by omega⟩]; simp only [Int.toNat_natCast]
              rw [e]
              exact mid_fex (hQ.drewN _) (grown_drewN hg _) hi ha hb
        · have hfd : (f0 == -1) = false := by simpa using hf
          have Hf : Hid (f0 ≠ -1) := hf
          clear hf
          go_wp2
          go_quiet (fail)
          go_wp2
          go_end0
          refine ⟨rfl, ?_⟩
          have e : fexF ns f0 (-1) R = f0 := by unfold fexF; rw [if_neg (by simp), if_neg (fun h => Hf.out h.1)]
          rw [e]
          exact ⟨a, b, ha, hb, hQ.drewN _, grown_drewN hg _⟩
      · have hli : l ≠ i := by intro e; exact HL.out (by rw [e])
        have hln : ((l : Int) != -1) = true := by simp
        have l1 : (0 : Int) ≤ (l : Int) := by omega
        have l2 : (l : Int) < (n : Int) := by omega
        have d9 : wr.cell? ⟨B, l * 10 + 9, none⟩ = some (.int .i32 (ns l).fex) := by rw [hQ.cell hl (by omega), upd_other _ _ hli]; rfl
        generalize hfl : (ns l).fex = fl at d9
        have Hfl : Hid ((ns l).fex = fl) := hfl
        clear hfl
        by_cases hz : fl = -1
        · subst hz
          have hd : ((-1 : Int) != -1) = false := rfl
          by_cases hf : f0 = -1
          · subst hf
            rcases hR with rfl | ⟨r, hr, rfl⟩
            · go_wp2
              go_quiet (fail)
              go_wp2
              go_end0
              refine ⟨rfl, ?_⟩
              have e : fexF ns (-1) (l) (-1) = -1 := by unfold fexF; rw [if_neg (by simp only [Int.toNat_natCast, Hfl.out]; simp), if_neg (by simp)]
              rw [e]
              exact ⟨a, b, ha, hb, hQ.drewN _, grown_drewN hg _⟩
            · have hri : r ≠ i := by intro e; exact HR.out (by rw [e])
              have hrn : ((r : Int) != -1) = true := by simp
              have r1 : (0 : Int) ≤ (r : Int) := by omega
              have r2 : (r : Int) < (n : Int) := by omega
              have e9 : wr.cell? ⟨B, r * 10 + 9, none⟩ = some (.int .i32 (ns r).fex) := by rw [hQ.cell hr (by omega), upd_other _ _ hri]; rfl
              go_wp2
              go_quiet (fail)
              go_wp2
              go_region
              all_goals
                go_wp2
                go_end0
                refine ⟨rfl, ?_⟩
                have e : fexF ns (-1) (l) (r : Int) = (ns r).fex := by unfold fexF; rw [if_neg (by simp only [Int.toNat_natCast, Hfl.out]; simp), if_pos ⟨rfl, by omega⟩]; simp only [Int.toNat_natCast]
                rw [e]
                exact mid_fex (hQ.drewN _) (grown_drewN hg _) hi ha hb
          · have hfd : (f0 == -1) = false := by simpa using hf
            have Hf : Hid (f0 ≠ -1) := hf
            clear hf
            go_wp2
            go_quiet (fail)
            go_wp2
            go_end0
            refine ⟨rfl, ?_⟩
            have e : fexF ns f0 (l) R = f0 := by unfold fexF; rw [if_neg (by simp only [Int.toNat_natCast, Hfl.out]; simp), if_neg (fun h => Hf.out h.1)]
            rw [e]
            exact ⟨a, b, ha, hb, hQ.drewN _, grown_drewN hg _⟩
        · have hd : (fl != -1) = true := by simpa using hz
          have Hz : Hid (fl ≠ -1) := hz
          clear hz
          go_wp2
          go_quiet (fail)
          go_wp2
          go_region
          all_goals
            go_wp2
            go_end0
            refine ⟨rfl, ?_⟩
            have e : fexF ns f0 (l : Int) R = fl := by
              unfold fexF
              rw [if_pos ⟨by omega, by simp only [Int.toNat_natCast]; rw [Hfl.out]; exact Hz.out⟩]; simp only [Int.toNat_natCast]; exact Hfl.out
            rw [e]
            exact mid_fex (hQ.drewN _) (grown_drewN hg _) hi ha hb
end Go.Proofs.Ybulkfhsm.B
