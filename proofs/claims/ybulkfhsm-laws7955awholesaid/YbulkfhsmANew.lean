/-
  newAccesses.
-/
import Derived.Test.YbulkfhsmANodes
import Derived.Test.YbulkfhsmAAbort
import Derived.Test.YbulkfhsmAAcc
import Derived.Test.YbulkfhsmACmp
import Derived.Deep.RegionLaw
namespace Go.Proofs.Ybulkfhsm.A
open Go.RowKit
attribute [local go_sem ↓] Go.wp_at_zero Go.wp_at_succ

theorem below_grown {n : Nat} {a b : World} (h : Below n a b) (hn : n = a.heap.size) : a.grownBy b none := ⟨h.os, h.tape, h.output, h.size, fun k hk _ => h.block k (by omega)⟩

/-- What newAccesses hands back. -/
def Made (w : World) (d : Dat) (e : Ending) (w' : World) : Prop :=
  ∃ (sa gf : Nat) (v oh nh : Value) (nx fs E : Nat → Int) (p : Nat → Nat), e = .returned (.pointer (some ⟨sa, 0, none⟩)) ∧ Blk w' sa 43 [v, oh, nh, .slice (some ⟨gf, 0, none⟩) d.objects d.objects] ∧ Blk w' gf 21 (rowF (fun x => .int .i32 (fs x)) d.objects) ∧
    w'.ownsRow w.heap.size 45 4 oh (d.cs d.N) (flatK d.acc (d.cs d.N)) ∧ w'.ownsRow w.heap.size 21 1 nh (d.cs d.N) (rowF (fun j => .int .i32 (nx j)) (d.cs d.N)) ∧
    w'.ownsRow w.heap.size 25 1 v d.total (rowF (fun i => .int .i32 (E i)) d.total) ∧ Ord d p ∧ Vals d p d.nt E ∧ (∀ x : Nat, x < d.objects → Fst d.obj (d.cs d.N) (x : Int) (fs x)) ∧ (∀ j, j < d.cs d.N → Nxt d.obj (d.cs d.N) j (nx j)) ∧ Below w.heap.size w w'

set_option maxRecDepth 100000 in
set_option maxHeartbeats 8000000 in
theorem new_any {w : World} {d : Dat} {gh go gt gv ch cv : Nat} (ok : d.Ok) (h : Lies w d gh go gt gv) :
    Calls Yba.prog 9 #[.slice (some ⟨gh, 0, none⟩) d.N ch, d.agg go gt gv cv] w (Made w d) := by
  have n0 : (0 : Int) ≤ (d.N : Int) := by omega
  have n1 : (d.N : Int) ≤ 4096 := by have := ok.hN; omega
  have t1 : (d.nt : Int) ≤ 4096 := by have := ok.hnt; omega
  have o1 : (d.objects : Int) ≤ 9 := by have := ok.hob; omega
  have o0 : (0 : Int) ≤ (d.objects : Int) := by omega
  obtain ⟨i21, hi, hz0, hz1, hz2⟩ := info_parts info21
  have hnt := ok.hnt
  unfold Dat.agg
  go_enter Yba.func9, Yba.ntmps9
  go_upto_region 1 with (fail)
  obtain ⟨s, es⟩ : ∃ s, s = w.heap.size := ⟨_, rfl⟩
  have b0 := Blk.new w 37 [.slice (some ⟨go, 0, none⟩) d.N d.N, .int .i64 (d.objects : Int), .slice (some ⟨gt, 0, none⟩) d.N d.N, .slice (some ⟨gv, 0, none⟩) d.nt cv]
  have hB0 : Below w.heap.size w (w.alloc (.cells [Value.slice (some ⟨go, 0, none⟩) d.N d.N, .int .i64 (d.objects : Int), .slice (some ⟨gt, 0, none⟩) d.N d.N, .slice (some ⟨gv, 0, none⟩) d.nt cv].toArray 37)) := (Below.refl _ w).alloc (Nat.le_refl _) _
  have h0 := h.below hB0
  generalize (w.alloc (.cells [Value.slice (some ⟨go, 0, none⟩) d.N d.N, .int .i64 (d.objects : Int), .slice (some ⟨gt, 0, none⟩) d.N d.N, .slice (some ⟨gv, 0, none⟩) d.nt cv].toArray 37)) = w0 at b0 hB0 h0 ⊢
  rw [← es] at b0 hB0 ⊢
  have ES := hide es
  clear es
  have c0 : ∀ W, Below w0.heap.size w0 W → W.cell? ⟨s, 0, none⟩ = some (.slice (some ⟨go, 0, none⟩) d.N d.N) := fun W hW => (b0.below hW b0.lt).cell rfl
  have c1 : ∀ W, Below w0.heap.size w0 W → W.cell? ⟨s, 1, none⟩ = some (.int .i64 (d.objects : Int)) := fun W hW => (b0.below hW b0.lt).cell rfl
  have c2 : ∀ W, Below w0.heap.size w0 W → W.cell? ⟨s, 2, none⟩ = some (.slice (some ⟨gt, 0, none⟩) d.N d.N) := fun W hW => (b0.below hW b0.lt).cell rfl
  have c3 : ∀ W, Below w0.heap.size w0 W → W.cell? ⟨s, 3, none⟩ = some (.slice (some ⟨gv, 0, none⟩) d.nt cv) := fun W hW => (b0.below hW b0.lt).cell rfl
  have k0 := c0 w0 (Below.refl _ _)
  have k1 := c1 w0 (Below.refl _ _)
  have k2 := c2 w0 (Below.refl _ _)
  have k3 := c3 w0 (Below.refl _ _)
  have HC0 := hide c0
  have HC1 := hide c1
  have HC2 := hide c2
  have HC3 := hide c3
  clear c0 c1 c2 c3
  go_cut [5, 6] from 15 to 24 (fun x v W => ∃ gn E p, x = .slice (some ⟨gn, 0, none⟩) d.nt d.nt ∧ w0.heap.size ≤ gn ∧ Blk W gn 21 (rowF (fun t => .int .i32 (d.node t)) d.nt) ∧
    W.ownsRow w0.heap.size 25 1 v d.total (rowF (fun i => .int .i32 (E i)) d.total) ∧ Ord d p ∧ Vals d p d.nt E ∧ Below w0.heap.size w0 W)
  case first =>
    go_region_with (first | (go_at_call 21; refine (aborted_any (cv := cv) (go := go) (gt := gt) (gv := gv) ok h0.drew).mono ?_; rintro e w1 ⟨ga, rfl, hge, hbl, hbel⟩; have hbel' : Below w0.heap.size w0 w1 := ⟨hbel.os, hbel.tape, hbel.output, hbel.size, hbel.block⟩; have k4 := HC0.out w1 hbel'; have k5 := HC1.out w1 hbel'; have k6 := HC2.out w1 hbel'; have k7 := HC3.out w1 hbel') | (go_at_call 20; refine (nodes_any (cv := cv) (go := go) (gt := gt) (gv := gv) ok (h0.below hbel') hbl).mono ?_; rintro e w2 ⟨gn, v, E, p, rfl, hgn, hnb, hown, hO, hV, hbel2⟩))
    all_goals
      go_wp2
      go_meet
      case rel => exact ⟨gn, E, p, rfl, Nat.le_trans hbel'.size hgn, hnb, own_mono hown hbel'.size, hO, hV, hbel'.trans (hbel2.mono hbel'.size)⟩
  case rest =>
  clear k0 k1 k2 k3
  obtain ⟨gn, E, p, rfl, hgn, hnb, hown, hO, hV, hBW⟩ := hcut
  have HO := hide hO
  have HV := hide hV
  clear hO hV
  have k1 := HC1.out _ hBW
  obtain ⟨va, vcap, rfl⟩ := slice_form hown
  go_upto_region 3 with (fail)
  rename World => W1
  have b3 := Blk.new W1 43 [.slice va d.total vcap, .slice none 0 0, .slice none 0 0, .slice none 0 0]
  have hB3 : Below W1.heap.size W1 (W1.alloc (.cells [Value.slice va d.total vcap, .slice none 0 0, .slice none 0 0, .slice none 0 0].toArray 43)) := (Below.refl _ W1).alloc (Nat.le_refl _) _
  obtain ⟨sa, esa⟩ : ∃ sa, sa = W1.heap.size := ⟨_, rfl⟩
  generalize (W1.alloc (.cells [Value.slice va d.total vcap, .slice none 0 0, .slice none 0 0, .slice none 0 0].toArray 43)) = W2 at b3 hB3 ⊢
  rw [← esa] at b3 hB3 ⊢
  have hsa : s < sa := by rw [esa]; exact (b0.below hBW b0.lt).lt
  have ESA := hide esa
  clear esa k1
  have LW : ∀ W, Below sa W1 W → Below w0.heap.size w0 W := fun W hW => hBW.trans (hW.mono (by rw [ESA.out]; exact hBW.size))
  have HLW := hide LW
  clear LW
  have k1 := HC1.out _ (HLW.out _ hB3)
  have ca : W2.cell? ⟨sa, 3, none⟩ = some (.slice none 0 0) := b3.cell rfl
  have fa := b3.frozen
  obtain ⟨gf, egf⟩ : ∃ gf, gf = W2.heap.size := ⟨_, rfl⟩
  have hgf : sa < gf := by rw [egf]; exact b3.lt
  go_cut [] from 26 to 36 (fun W => Blk W gf 21 (rowF (fun _ => .int .i32 0) d.objects) ∧ Blk W sa 43 [.slice va d.total vcap, .slice none 0 0, .slice none 0 0, .slice (some ⟨gf, 0, none⟩) d.objects d.objects] ∧ Below sa W1 W)
  case first =>
    go_wp2_with (at_make; refine wpList_make_full _ rfl _ _ 23 rfl 0 21 i21 _ 1 Yba.underlying23 hi hz0 hz1 .i64 .i64 _ _ d.objects rfl rfl rfl rfl (by rw [hz2]; omega) (by unfold maxLen; omega) (Nat.zero_le _) ?_; intro w3 hown3 hg3; have ca := hg3.cell ca (by simp); have fa := (b3.kept hg3 (by simp)).frozen)
    go_meet
    case rel =>
      rw [← egf] at hown3 ⊢
      exact ⟨(made_row rfl hown3).other (by simp; omega) _, (b3.kept hg3 (by simp)).store 3 _, (Below.grown hB3 hg3 (by omega) (by simp)).setCell (Nat.le_refl _) _⟩
  case rest =>
  clear ca fa k1 b3 hB3 egf
  rename World => W3
  obtain ⟨hf3, ha3, hB3⟩ := hcut
  have k1 := HC1.out _ (HLW.out _ hB3)
  obtain ⟨gl, egl⟩ : ∃ gl, gl = W3.heap.size := ⟨_, rfl⟩
  have hgl : gf < gl := by rw [egl]; exact hf3.lt
  go_upto_region 4 with (fail)
  go_cut [8] from 26 to 36 (fun v W => v = .slice (some ⟨gl, 0, none⟩) d.objects d.objects ∧ Blk W gl 21 (rowF (fun _ => .int .i32 0) d.objects) ∧ Blk W gf 21 (rowF (fun _ => .int .i32 0) d.objects) ∧ Blk W sa 43 [.slice va d.total vcap, .slice none 0 0, .slice none 0 0, .slice (some ⟨gf, 0, none⟩) d.objects d.objects] ∧ Below sa W1 W)
  case first =>
    go_wp2_with (at_make; refine wpList_make_full _ rfl _ _ 23 rfl 0 21 i21 _ 1 Yba.underlying23 hi hz0 hz1 .i64 .i64 _ _ d.objects rfl rfl rfl rfl (by rw [hz2]; omega) (by unfold maxLen; omega) (Nat.zero_le _) ?_; intro w3 hown3 hg3)
    go_meet
    case rel =>
      rw [← egl] at hown3 ⊢
      exact ⟨rfl, made_row rfl hown3, hf3.kept hg3 (by simp), ha3.kept hg3 (by simp), Below.grown hB3 hg3 (by omega) (by simp)⟩
  case rest =>
  clear k1 hf3 ha3 hB3 egl hi hz0 hz1 hz2
  rename World => W4
  obtain ⟨rfl, hl4, hf4, ha4, hB4⟩ := hcut
  have k1 := HC1.out _ (HLW.out _ hB4)
  go_upto_block 0 with (fail)
  go_cut [9] from 37 to 49 (fun _ W => ∃ B fs ls, AcL W1 d sa gf gl B 0 0 (.slice va d.total vcap) (.slice none 0 0) (.slice none 0 0) (fun _ => 0) fs ls W ∧ (∀ x, x < d.objects → fs x = -1) ∧ ∀ x, x < d.objects → ls x = -1)
  case first =>
    go_wp2_with fail
    go_loopw [37] (fun x W => ∃ (i : Nat) (fs ls : Nat → Int), x = .int .i64 (i : Int) ∧ i ≤ d.objects ∧ Blk W gl 21 (rowF (fun x => .int .i32 (ls x)) d.objects) ∧ Blk W gf 21 (rowF (fun x => .int .i32 (fs x)) d.objects) ∧ Blk W sa 43 [.slice va d.total vcap, .slice none 0 0, .slice none 0 0, .slice (some ⟨gf, 0, none⟩) d.objects d.objects] ∧ Below sa W1 W ∧ (∀ y, y < i → fs y = -1) ∧ ∀ y, y < i → ls y = -1) (fun x _ => d.objects - (intOf x).toNat)
    case atStart => exact ⟨0, fun _ => 0, fun _ => 0, rfl, by omega, hl4, hf4, ha4, hB4, by omega, by omega⟩
    case round =>
      clear hl4 hf4 ha4 hB4 k1
      obtain ⟨i, fs, ls, rfl, hi, hl4, hf4, ha4, hB4, hfs, hls⟩ := hrel
      have HFS := hide hfs
      have HLS := hide hls
      clear hfs hls
      have i0 : (0 : Int) ≤ (i : Int) := by omega
      by_cases hlt : i < d.objects
      · have i1 : (i : Int) < (d.objects : Int) := by omega
        have ca : wr.cell? ⟨sa, 3, none⟩ = some (.slice (some ⟨gf, 0, none⟩) d.objects d.objects) := ha4.cell rfl
        have cf := hf4.at hlt
        have cl := hl4.at hlt
        have ff := hf4.frozen
        have fl := hl4.frozen
        have ne : gl ≠ gf := by omega
        go_wp2
        refine ⟨⟨i + 1, putI fs i (-1), putI ls i (-1), by go_num, by omega, ?_, ?_, (ha4.other (by simp; omega) _).other (by simp; omega) _, (hB4.setCell (by simp; omega) _).setCell (by simp; omega) _, fun y hy => ?_, fun y hy => ?_⟩, by simp [intOf]; omega⟩
        · rw [← putV_int]; exact (hl4.other (by simp; omega) _).put _ _
        · rw [← putV_int]; exact (hf4.put _ _).other (by simp; omega) _
        · unfold putI
          by_cases e : y = i
          · rw [if_pos e]
          · rw [if_neg e]; exact HFS.out y (by omega)
        · unfold putI
          by_cases e : y = i
          · rw [if_pos e]
          · rw [if_neg e]; exact HLS.out y (by omega)
      · have i1 : ¬ (i : Int) < (d.objects : Int) := by omega
        obtain rfl : i = d.objects := by omega
        go_wp2
        go_meet
        case rel => exact ⟨wr.heap.size, fs, ls, ⟨ha4, hf4, hl4, by simpa [flatK] using World.ownsRow_nil _ _ _ _, by simpa [rowF] using World.ownsRow_nil _ _ _ _, hB4, hgf, hgl, hl4.lt, Nat.le_refl _⟩, HFS.out, HLS.out⟩
  case rest =>
  clear hl4 hf4 ha4 hB4 k1
  obtain ⟨B, fs0, ls0, hA0, hfs, hls⟩ := hcut
  have hL0 := links_start d (fun _ => 0) fs0 ls0 hfs hls
  have HL0 := hide hL0
  clear hL0 hfs hls
  have hgns : gn < sa := by rw [ESA.out]; exact hnb.lt
  go_upto_block 2 with (fail)
  go_cut [10, 11, 12, 13, 14] from 52 to 135 (fun _ _ _ _ _ W => ∃ oh nh nx fs ls, AcL W1 d sa gf gl B (d.cs d.N) (d.cs d.N) (.slice va d.total vcap) oh nh nx fs ls W ∧ Links d (d.cs d.N) nx fs ls)
  case first =>
    go_wp2_with fail
    go_loopw [52] (fun x W => ∃ (k : Nat) (oh nh : Value) (nx fs ls : Nat → Int), x = .int .i64 (k : Int) ∧ k ≤ d.N ∧ AcL W1 d sa gf gl B (d.cs k) (d.cs k) (.slice va d.total vcap) oh nh nx fs ls W ∧ Links d (d.cs k) nx fs ls) (fun x _ => d.N - (intOf x).toNat)
    case atStart => exact ⟨0, _, _, _, _, _, rfl, by omega, hA0, HL0.out⟩
    case round =>
      clear hA0 HL0
      obtain ⟨k, oh, nh, nx, fs, ls, rfl, hk, hA, hLk⟩ := hrel
      have HLk := hide hLk
      clear hLk
      have i0 : (0 : Int) ≤ (k : Int) := by omega
      by_cases hlt : k < d.N
      · have i1 : (k : Int) < (d.N : Int) := by omega
        have i2 : (k : Int) ≤ 4096 := by omega
        have hT := ok.hT k hlt
        have t2 : (d.T k : Int) < (d.nt : Int) := by omega
        have t3 : (0 : Int) ≤ (d.T k : Int) := by omega
        have hWr := HLW.out _ hA.bel
        have hL := h0.below hWr
        have q0 := hL.ck k hlt
        have q1 := hL.ct k hlt
        have q2 := hL.co k hlt
        clear hL
        go_upto_block 3 with (fail)
        go_cut [10, 11, 12, 13, 14] from 53 to 135 (fun _ _ _ _ _ W => ∃ oh nh nx fs ls, AcL W1 d sa gf gl B (d.cs (k + 1)) (d.cs (k + 1)) (.slice va d.total vcap) oh nh nx fs ls W ∧ Links d (d.cs (k + 1)) nx fs ls)
        case first =>
          go_upto_region 13 with (fail)
          have hC := hA.newVar [.int .u8 (d.K k), .int .i32 (d.V (d.T k)), .string (d.O k)]
          clear q0 q1 q2 hWr hA
          generalize (wr.alloc (.cells [Value.int .u8 (d.K k), .int .i32 (d.V (d.T k)), .string (d.O k)].toArray 32)) = W5 at hC ⊢
          generalize wr.heap.size = N0 at hC ⊢
          have hW5 := HLW.out _ hC.bel
          have k2 := HC2.out _ hW5
          have hL := h0.below hW5
          have q3 := hL.tx k hlt
          have q4 := (hnb.below hC.bel hgns).at hT
          clear hL
          go_upto_region 14 with (fail)
          clear k2 q3 q4
          have q5 : W5.cell? ⟨N0, 0, none⟩ = some (.int .u8 (d.K k)) := hC.var.cell rfl
          by_cases hn : d.node (d.T k) < 0
          · have hsel : d.sel k = false := by simp [Dat.sel]; omega
            have e1 : d.cs (k + 1) = d.cs k := by rw [cs_succ, hsel]; rfl
            have HE := hide e1
            clear e1 hsel
            go_wp2
            go_meet
            case rel => rw [HE.out]; exact ⟨oh, nh, nx, fs, ls, hC.toL, HLk.out⟩
          · by_cases hc : d.K k = 1 ∨ d.K k = 2
            · have hsel : d.sel k = true := by simp only [Dat.sel, Bool.and_eq_true, decide_eq_true_eq]; exact ⟨by omega, hc⟩
              have hcon := conflicting_any (d.K k) W5
              rw [show decide (d.K k = 1 ∨ d.K k = 2) = true by simpa using hc] at hcon
              have HCON := hide hcon
              have HSEL := hide hsel
              have x0 := ok.hX0 k hlt hc
              have x1 := ok.hX k hlt
              clear hcon hsel hc
              go_upto_region 15 with (go_at_call 22; refine HCON.out.mono ?_; rintro e w' ⟨rfl, ew⟩; obtain rfl := ew.symm)
              obtain ⟨x, hx⟩ : ∃ x : Nat, d.X k = (x : Int) := ⟨(d.X k).toNat, by omega⟩
              have hxo : x < d.objects := by omega
              have x2 : (x : Int) < (d.objects : Int) := by omega
              have x3 : (0 : Int) ≤ (x : Int) := by omega
              have x4 : (x : Int) ≤ 9 := by omega
              obtain ⟨m, em⟩ : ∃ m, m = d.cs k := ⟨_, rfl⟩
              have hob : d.obj m = (x : Int) := by rw [em, Dat.obj, ix_cs d hlt HSEL.out, hx]
              have hacc : d.acc m = [.int .i32 (k : Int), .int .i32 (d.node (d.T k)), .int .i32 (x : Int), .int .u8 (d.K k)] := by rw [em, Dat.acc, ix_cs d hlt HSEL.out, hx]
              have hcs : d.cs (k + 1) = m + 1 := by rw [cs_succ, if_pos HSEL.out, em]
              have hm4 : m ≤ 4096 := by rw [em]; have := cs_le d k; omega
              have m1 : (m : Int) ≤ 4096 := by omega
              have m0 : (0 : Int) ≤ (m : Int) := by omega
              rw [← em] at hC HLk
              have HOB := hide hob
              have HACC := hide hacc
              have HCS := hide hcs
              clear em hob hacc hcs HSEL HCON
              have k0 := HC0.out _ hW5
              have q6 := (h0.below hW5).ob k hlt
              rw [hx] at q6 x0 x1
              clear hx x0 x1
              obtain ⟨oa, ocap, rfl⟩ := slice_form hC.ops
              have ca1 : W5.cell? ⟨sa, 1, none⟩ = some (.slice oa m ocap) := hC.acc.cell rfl
              have cl := hC.lst.at hxo
              go_upto_if 88 with (fail)
              clear k0 q6 ca1
              go_cut [] from 89 to 110 (fun W => ∃ nh' nx' fs', Ac W1 d sa gf gl B N0 [.int .u8 (d.K k), .int .i32 (d.V (d.T k)), .string (d.O k)] m m (.slice va d.total vcap) (.slice oa m ocap) nh' nx' fs' ls W ∧ Links d (m + 1) (putI nx' m (-1)) fs' (putI ls x (m : Int)))
              case first =>
                by_cases hl : ls x < 0
                · have ca3 : W5.cell? ⟨sa, 3, none⟩ = some (.slice (some ⟨gf, 0, none⟩) d.objects d.objects) := hC.acc.cell rfl
                  have cf := hC.fst.at hxo
                  have ff := hC.fst.frozen
                  go_wp2
                  go_meet
                  case rel => exact ⟨nh, nx, putI fs x (m : Int), hC.setFst x (m : Int), links_first HLk.out hxo HOB.out hl⟩
                · obtain ⟨l, l1, l2, l3, l4⟩ := (HLk.out.lst x hxo).some hl
                  obtain ⟨gx, ncap, rfl, hgx⟩ := row_form hC.nxt (by omega)
                  have ca2 : W5.cell? ⟨sa, 2, none⟩ = some (.slice (some ⟨gx, 0, none⟩) m ncap) := hC.acc.cell rfl
                  have cx : W5.cell? ⟨gx, l, none⟩ = some (.int .i32 (nx l)) := by rw [World.ownsRow.cellAt hC.nxt l (by omega), rowF_get _ l1]
                  have fx := fun o => hC.nxt.frozenAt (g := gx) o
                  have l5 : (l : Int) < (m : Int) := by omega
                  have l6 : (0 : Int) ≤ (l : Int) := by omega
                  have HL4 := hide l4
                  have HL2 := hide l2
                  have HL3 := hide l3
                  rw [l2] at cl
                  clear l4 l3 l2
                  go_wp2_with fail
                  go_region
                  all_goals
                    go_wp2
                    go_meet
                    case rel => exact ⟨_, putI nx l (m : Int), fs, (hC.setNxt l (m : Int)).drewN 1, links_later HLk.out hxo HOB.out l1 HL3.out HL4.out⟩
              case rest =>
              clear hC HLk cl q5 hW5
              obtain ⟨nh1, nx1, fs1, hC, hLk⟩ := hcut
              have HLk := hide hLk
              clear hLk
              have cl := hC.lst.at hxo
              have fl := hC.lst.frozen
              go_upto_region 20 with (fail)
              go_cut [] from 89 to 110 (fun W => Ac W1 d sa gf gl B N0 [.int .u8 (d.K k), .int .i32 (d.V (d.T k)), .string (d.O k)] m m (.slice va d.total vcap) (.slice oa m ocap) nh1 nx1 fs1 (putI ls x (m : Int)) W)
              case first =>
                go_wp2
                go_meet
                case rel => exact hC.setLst x (m : Int)
              case rest =>
              clear hC cl fl
              have hC := hcut
              clear hcut
              obtain ⟨i45, ji, jz0, jz1, jz2⟩ := info_parts info45
              have ca1 : wc.cell? ⟨sa, 1, none⟩ = some (.slice oa m ocap) := hC.acc.cell rfl
              have q5 : wc.cell? ⟨N0, 0, none⟩ = some (.int .u8 (d.K k)) := hC.var.cell rfl
              have fa := hC.acc.frozen
              have ls1 := hC.acc.lt
              have ls2 := hC.var.lt
              have lB := hC.h4
              have lsB : sa < B := by have := hC.h1; have := hC.h2; have := hC.h3; omega
              have A2 : ∀ (o : Obj) (i : Nat), (wc.alloc o).cell? ⟨sa, i, none⟩ = wc.cell? ⟨sa, i, none⟩ := fun o i => World.cell?_alloc_old _ _ _ (by show sa ≠ _; omega)
              have A4 : ∀ (o : Obj) (i : Nat), (wc.alloc o).cell? ⟨N0, i, none⟩ = wc.cell? ⟨N0, i, none⟩ := fun o i => World.cell?_alloc_old _ _ _ (by show N0 ≠ _; omega)
              have A3 : ∀ (o : Obj) (i : Nat), (wc.alloc o).frozen? ⟨sa, i, none⟩ = false := fun o i => by rw [World.frozen?_alloc_old _ _ _ (by show sa ≠ _; omega)]; exact fa i
              have HNE : some sa ≠ (Value.slice oa m ocap).ownBlock := fun e => by have := (hC.ops.lt sa e.symm).1; omega
              have wk : IntKind.i32.wrap (k : Int) = (k : Int) := by simp [IntKind.wrap, IntKind.bits, IntKind.signed]; omega
              go_upto_region 21 with (fail)
              go_cut [] from 89 to 135 (fun W => ∃ oh', Ac W1 d sa gf gl B N0 [.int .u8 (d.K k), .int .i32 (d.V (d.T k)), .string (d.O k)] (m + 1) m (.slice va d.total vcap) oh' nh1 nx1 fs1 (putI ls x (m : Int)) W)
              case first =>
                go_region_law ((refine step_append_lies _ (by rfl) _ _ _ (by rfl) B 45 i45 _ 4 16 Yba.underlying41 ji jz0 jz1 jz2 rfl (by omega) _ m (flatK d.acc m) (by rfl) (by exact hC.ops.alloc _) _ 1 1 [.int .i32 (k : Int), .int .i32 (d.node (d.T k)), .int .i32 (x : Int), .int .u8 (d.K k)] (by rfl) (by rfl) (by exact World.news_of_block (heap_alloc_new _ _)) (by simp [Value.oneCell']) (by omega) (by simp only [maxLen]; omega) (by omega) (by simp only [World.size_alloc, World.size_drew]; omega) _ rfl ?_; intro g cap w3 hown hgrow hat hlt3; have hs3 := hgrow.cell (a := ⟨sa, 1, none⟩) (v := .slice oa m ocap) (by simp only [World.cell?_drew]; rw [A2]; exact ca1) HNE; have fs3 : ∀ o, w3.frozen? ⟨sa, o, none⟩ = false := fun o => (World.frozen?_of_block (hgrow.block sa (by simp only [World.size_alloc, World.size_drew]; omega) HNE)).trans (A3 _ o)))
                all_goals
                  go_wp2
                  go_meet
                  case rel =>
                    refine ⟨_, hC.appOps (W2 := _) ?_ hgrow ?_⟩
                    · exact ⟨rfl, rfl, rfl, by simp, fun k hk _ => Below.heap_alloc _ _ _ hk⟩
                    · show World.ownsRow _ _ _ _ _ _ (flatK d.acc m ++ d.acc m)
                      rw [HACC.out]
                      exact hown
              case rest =>
              clear hC ca1 q5 fa ls1 ls2 A2 A3 A4 HNE wk ji jz0 jz1 jz2
              obtain ⟨oh2, hC⟩ := hcut
              obtain ⟨na, ncap, rfl⟩ := slice_form hC.nxt
              obtain ⟨i21, ji, jz0, jz1, jz2⟩ := info_parts info21
              have ca2 : wc.cell? ⟨sa, 2, none⟩ = some (.slice na m ncap) := hC.acc.cell rfl
              have fa := hC.acc.frozen
              have ls1 := hC.acc.lt
              have ls2 := hC.var.lt
              have A2 : ∀ (o : Obj) (i : Nat), (wc.alloc o).cell? ⟨sa, i, none⟩ = wc.cell? ⟨sa, i, none⟩ := fun o i => World.cell?_alloc_old _ _ _ (by show sa ≠ _; omega)
              have A3 : ∀ (o : Obj) (i : Nat), (wc.alloc o).frozen? ⟨sa, i, none⟩ = false := fun o i => by rw [World.frozen?_alloc_old _ _ _ (by show sa ≠ _; omega)]; exact fa i
              have HNE : some sa ≠ (Value.slice na m ncap).ownBlock := fun e => by have := (hC.nxt.lt sa e.symm).1; omega
              go_wp2_with (at_builtin; refine wpList_append_lies _ rfl _ _ 23 rfl B 21 i21 _ 1 4 Yba.underlying23 ji jz0 jz1 jz2 rfl (by omega) _ m (rowF (fun j => .int .i32 (nx1 j)) m) rfl (by exact hC.nxt.alloc _) _ 1 1 [.int .i32 (-1)] rfl rfl (by exact World.news_of_block (heap_alloc_new _ _)) (by simp [Value.oneCell']) (by omega) (by simp only [maxLen]; omega) (by omega) (by simp only [World.size_alloc]; omega) _ rfl ?_; intro g cap w3 hown hgrow hat hlt3; have hs3 := hgrow.cell (a := ⟨sa, 2, none⟩) (v := .slice na m ncap) (by rw [A2]; exact ca2) HNE; have fs3 : ∀ o, w3.frozen? ⟨sa, o, none⟩ = false := fun o => (World.frozen?_of_block (hgrow.block sa (by simp only [World.size_alloc]; omega) HNE)).trans (A3 _ o))
              go_meet
              case rel =>
                rw [HCS.out]
                exact ⟨_, _, _, _, _, (hC.appNxt (World.grownBy_alloc _ _ _) hgrow hown).toL, HLk.out⟩
            · have hsel : d.sel k = false := by simp only [Dat.sel, Bool.and_eq_false_iff, decide_eq_false_iff_not]; exact .inr hc
              have e1 : d.cs (k + 1) = d.cs k := by rw [cs_succ, hsel]; rfl
              have HE := hide e1
              have hcon := conflicting_any (d.K k) W5
              rw [show decide (d.K k = 1 ∨ d.K k = 2) = false by simpa using hc] at hcon
              have HCON := hide hcon
              clear e1 hsel hcon hc
              go_wp2_with (go_at_call 22; refine HCON.out.mono ?_; rintro e w' ⟨rfl, ew⟩; obtain rfl := ew.symm)
              go_meet
              case rel => rw [HE.out]; exact ⟨oh, nh, nx, fs, ls, hC.toL, HLk.out⟩
        case rest =>
        clear q0 q1 q2 hWr hA HLk
        obtain ⟨oh', nh', nx', fs', ls', hA', hL'⟩ := hcut
        have HL' := hide hL'
        clear hL'
        go_wp2
        exact ⟨⟨k + 1, oh', nh', nx', fs', ls', by go_num, by omega, hA', HL'.out⟩, by simp [intOf]; omega⟩
      · have i1 : ¬ (k : Int) < (d.N : Int) := by omega
        obtain rfl : k = d.N := by omega
        go_wp2
        go_meet
        case rel => exact ⟨oh, nh, nx, fs, ls, hA, HLk.out⟩
  case rest =>
  clear hA0 HL0
  obtain ⟨oh, nh, nx, fs, ls, hA, hLk⟩ := hcut
  have HLk := hide hLk
  clear hLk
  go_wp2
  go_ret
  have hsw : w.heap.size ≤ sa := by rw [← ES.out]; omega
  have hw1 : w.heap.size ≤ w0.heap.size := hB0.size
  have h1 := hA.h1
  have h2 := hA.h2
  have h3 := hA.h3
  refine ⟨sa, gf, _, oh, nh, nx, fs, E, p, rfl, hA.acc, hA.fst, own_mono hA.ops (by omega), own_mono hA.nxt (by omega), ?_, HO.out, HV.out, HLk.out.fst, HLk.out.nxt, ?_⟩
  · refine own_mono (hown.kept (below_grown hA.bel ESA.out) ?_) hw1
    cases (Value.slice va d.total vcap).ownBlock <;> simp
  · have := HLW.out _ hA.bel
    rw [← ES.out]
    exact hB0.trans (this.mono (by rw [ES.out]; exact hw1))
end Go.Proofs.Ybulkfhsm.A
