/-
  next: the step that is due first.
-/
import Derived.Test.YbulkfhtaBCons
import Derived.Test.YbulkfhtaBAt
import Derived.BigQuiet
namespace Go.Proofs.Ybulkfhta.B
open Go.RowKit
attribute [local go_sem ↓] Go.wp_at_zero Go.wp_at_succ

theorem hlen_any {W : World} {hb ho k : Nat} {hdr : Value} {p : Nat → Nat} {D : Nat → Int} (h : Hp W hb ho hdr k p D) :
    Calls Yba.prog 11 #[.pointer (some ⟨hb, ho, none⟩)] W fun e w' => e = .returned (.int .i64 (k : Int)) ∧ w' = W := by
  obtain ⟨a, cap, rfl⟩ := slice_form h.own
  have c := h.hd
  go_enter Yba.func11, Yba.ntmps11
  go_wp2
  go_ret
  exact ⟨by simp, rfl⟩

theorem first_any {W : World} {hb ho k : Nat} {hdr : Value} {p : Nat → Nat} {D : Nat → Int} (h : Hp W hb ho hdr k p D) (hk : 0 < k) :
    Calls Yba.prog 16 #[.pointer (some ⟨hb, ho, none⟩)] W fun e w' => e = .returned (.pointer (some ⟨p 0, 0, none⟩)) ∧ w' = W := by
  obtain ⟨g, cap, rfl, _⟩ := row_form h.own hk
  have c := h.hd
  have c0 := h.cell hk
  have k1 : (0 : Int) < (k : Int) := by omega
  go_enter Yba.func16, Yba.ntmps16
  go_wp2
  go_ret
  exact ⟨by simp, rfl⟩

/-! ### the restarts -/
def rcell (n : Int) : List Value := [.pointer none, .int .u64 (n % 1000000000), .int .i64 (n / 1000000000), .pointer none]
def rowR (R : Nat → Int) : Nat → List Value
  | 0 => []
  | m + 1 => rowR R m ++ rcell (R m)
theorem rowR_len (R : Nat → Int) (n : Nat) : (rowR R n).length = n * 4 := by
  induction n with
  | zero => rfl
  | succ n ih => simp [rowR, ih, rcell]; omega
theorem rowR_get (R : Nat → Int) {n i k : Nat} (hi : i < n) (hk : k < 4) : (rowR R n)[i * 4 + k]? = (rcell (R i))[k]? := by
  induction n with
  | zero => omega
  | succ n ih =>
    simp only [rowR]
    by_cases h : i < n
    · rw [List.getElem?_append_left (by rw [rowR_len]; omega)]; exact ih h
    · have : i = n := by omega
      subst this
      rw [List.getElem?_append_right (by rw [rowR_len]; omega), rowR_len]
      congr 1; omega

/-- What the schedule holds. -/
structure Ld where
  n : Nat
  hdr : Value
  p : Nat → Nat
  D : Nat → Int
  k : Nat
  nS : Nat
  d : Int
  sf : Int
  lv : Bool
  rh : Value
  m : Nat
  R : Nat → Int
  v0 : Value
  v1 : Value
  v4 : Value

structure Inp (W : World) (L : Nat) (x : Ld) : Prop where
  hp : Hp W L 10 x.hdr x.n x.p x.D
  c0 : W.cell? ⟨L, 0, none⟩ = some x.v0
  c1 : W.cell? ⟨L, 1, none⟩ = some x.v1
  c2 : W.cell? ⟨L, 2, none⟩ = some (.int .i64 (x.nS : Int))
  c3 : W.cell? ⟨L, 3, none⟩ = some (.int .i64 x.d)
  c4 : W.cell? ⟨L, 4, none⟩ = some x.v4
  c11 : W.cell? ⟨L, 11, none⟩ = some x.rh
  c12 : W.cell? ⟨L, 12, none⟩ = some (.int .u64 (x.sf % 1000000000))
  c13 : W.cell? ⟨L, 13, none⟩ = some (.int .i64 (x.sf / 1000000000))
  c14 : W.cell? ⟨L, 14, none⟩ = some (.pointer none)
  c15 : W.cell? ⟨L, 15, none⟩ = some (.int .i64 (x.k : Int))
  c16 : W.cell? ⟨L, 16, none⟩ = some (.bool x.lv)
  rows : W.ownsRow (L + 1) 56 4 x.rh x.m (rowR x.R x.m)

theorem Inp.lt {W : World} {L : Nat} {x : Ld} (h : Inp W L x) : L < W.heap.size := World.block_lt_of_cell? _ _ h.c0

theorem Inp.grown {W W' : World} {L : Nat} {x : Ld} (h : Inp W L x) (hg : W.grownBy W' none) : Inp W' L x :=
  ⟨h.hp.grown hg, hg.cell h.c0 (by simp), hg.cell h.c1 (by simp), hg.cell h.c2 (by simp), hg.cell h.c3 (by simp), hg.cell h.c4 (by simp), hg.cell h.c11 (by simp), hg.cell h.c12 (by simp), hg.cell h.c13 (by simp), hg.cell h.c14 (by simp), hg.cell h.c15 (by simp), hg.cell h.c16 (by simp), h.rows.kept hg (by cases x.rh.ownBlock <;> simp)⟩
theorem Inp.below {W W' : World} {L : Nat} {x : Ld} (h : Inp W L x) (hb : Below W.heap.size W W') : Inp W' L x := h.grown (below_size hb)

def sBeat : ByteArray := { data := #[98, 101, 97, 116] }
def sStop : ByteArray := { data := #[115, 116, 111, 112] }
def sRest : ByteArray := { data := #[114, 101, 115, 116, 97, 114, 116] }
def sLeave : ByteArray := { data := #[108, 101, 97, 118, 101] }
theorem fBeat : Full sBeat := by unfold Full; kernel_rfl
theorem fStop : Full sStop := by unfold Full; kernel_rfl
theorem fRest : Full sRest := by unfold Full; kernel_rfl
theorem fLeave : Full sLeave := by unfold Full; kernel_rfl

def oBeat (x : Ld) : Option Cand := if 0 < x.n then some (x.D (x.p 0), sBeat) else none
def oStop (x : Ld) (o : Option Cand) : Option Cand := if x.k < x.nS then cons o (x.sf + (x.d * ((x.k + 1 : Nat) : Int)).tdiv (x.nS : Int), sStop) else o
def oRest (x : Ld) (o : Option Cand) : Option Cand := if 0 < x.m then cons o (x.R 0, sRest) else o
def oLeave (x : Ld) (o : Option Cand) : Option Cand := if x.lv = false ∧ x.k = x.nS ∧ x.m = 0 then cons o (x.sf + x.d, sLeave) else o
def nextO (x : Ld) : Option Cand := if x.sf = 0 then oBeat x else oLeave x (oRest x (oStop x (oBeat x)))

/-- The schedule's numbers stay small. -/
structure Small (x : Ld) : Prop where
  n1 : x.n ≤ 65536
  m1 : x.m ≤ 65536
  k1 : x.k < 42
  s1 : x.nS < 40
  d0 : -1073741824 < x.d
  d1 : x.d < 1073741824
  f0 : -4611686018427387904 < x.sf
  f1 : x.sf < 4611686018427387904

theorem results_next {fn : Func} {p q : Tmp} (h : fn.results = #[.cell p 37, .cell q 57]) {tmps : Array Value} {w : World} {g g' : Nat} (hp : tmps.getD p undef = .pointer (some ⟨g, 0, none⟩)) (hq : tmps.getD q undef = .pointer (some ⟨g', 0, none⟩)) {v0 v1 v2 v3 : Value}
    (c0 : w.cell? ⟨g, 0, none⟩ = some v0) (c1 : w.cell? ⟨g, 1, none⟩ = some v1) (c2 : w.cell? ⟨g, 2, none⟩ = some v2) (c3 : w.cell? ⟨g', 0, none⟩ = some v3) : (results fn tmps).run Yba.prog w = .ok (.tuple #[.agg #[v0, v1, v2], v3]) w := by
  have hl := run_loadCells_list (P := Yba.prog) w ⟨g, 0, none⟩ [v0, v1, v2] (by
    intro j v hv
    rw [Addr.add_lit, Nat.zero_add]
    match j with
    | 0 => simp at hv; subst hv; exact c0
    | 1 => simp at hv; subst hv; exact c1
    | 2 => simp at hv; subst hv; exact c2
    | n + 3 => simp at hv)
  have hp' : tmps[p]?.getD undef = .pointer (some ⟨g, 0, none⟩) := by simpa using hp
  have hq' : tmps[q]?.getD undef = .pointer (some ⟨g', 0, none⟩) := by simpa using hq
  simp only [List.length_cons, List.length_nil, Nat.zero_add, Nat.reduceAdd] at hl
  simp [results, h, loadVar, hp', hq', asAddr, Yba.isAgg37, Yba.sizeOf37, hl, c3]

theorem cell_drew (W : World) (a : Addr) : W.drew.cell? a = W.cell? a := rfl
theorem Cur.back {W : World} {a : Nat} {o : Option Cand} (h : Cur W a o) :
    Cur ((((W.setCell ⟨a, 0, none⟩ (.int .u64 (timeOf o % 1000000000))).setCell ⟨a, 1, none⟩ (.int .i64 (timeOf o / 1000000000))).setCell ⟨a, 2, none⟩ (.pointer none)).setCell ⟨a + 1, 0, none⟩ (.string (stepOf o))) a o :=
  ⟨(((h.time.store 0 (.int .u64 (timeOf o % 1000000000))).store 1 (.int .i64 (timeOf o / 1000000000))).store 2 (.pointer none)).other (by simp) _, (((h.what.other (by simp) _).other (by simp) _).other (by simp) _).store 0 (.string (stepOf o)), h.full⟩
theorem Cur.cells {W : World} {a : Nat} {o : Option Cand} (h : Cur W a o) : W.cell? ⟨a, 0, none⟩ = some (.int .u64 (timeOf o % 1000000000)) ∧ W.cell? ⟨a, 1, none⟩ = some (.int .i64 (timeOf o / 1000000000)) ∧ W.cell? ⟨a, 2, none⟩ = some (.pointer none) ∧ W.cell? ⟨a + 1, 0, none⟩ = some (.string (stepOf o)) ∧ (∀ j, W.frozen? ⟨a, j, none⟩ = false) ∧ (∀ j, W.frozen? ⟨a + 1, j, none⟩ = false) :=
  ⟨h.time.cell (i := 0) rfl, h.time.cell (i := 1) rfl, h.time.cell (i := 2) rfl, h.what.cell (i := 0) rfl, h.time.frozen, h.what.frozen⟩
theorem Below.back {a : Nat} {W w : World} (h : Below a W w) (v0 v1 v2 v3 : Value) : Below a W ((((w.setCell ⟨a, 0, none⟩ v0).setCell ⟨a, 1, none⟩ v1).setCell ⟨a, 2, none⟩ v2).setCell ⟨a + 1, 0, none⟩ v3).drew :=
  have h1 : Below a W (w.setCell ⟨a, 0, none⟩ v0) := h.setCell (Nat.le_refl _) v0
  have h2 : Below a W ((w.setCell ⟨a, 0, none⟩ v0).setCell ⟨a, 1, none⟩ v1) := h1.setCell (Nat.le_refl _) v1
  have h3 : Below a W (((w.setCell ⟨a, 0, none⟩ v0).setCell ⟨a, 1, none⟩ v1).setCell ⟨a, 2, none⟩ v2) := h2.setCell (Nat.le_refl _) v2
  have h' : Below a W ((((w.setCell ⟨a, 0, none⟩ v0).setCell ⟨a, 1, none⟩ v1).setCell ⟨a, 2, none⟩ v2).setCell ⟨a + 1, 0, none⟩ v3) := h3.setCell (by simp) v3
  ⟨h'.os, h'.tape, h'.output, h'.size, h'.block⟩

/-- Where next stands: what it has taken so far. -/
structure At (W : World) (L a : Nat) (x : Ld) (o : Option Cand) (w : World) : Prop where
  cur : Cur w a o
  inp : Inp w L x
  bel : Below a W w

theorem At.go {W w w' : World} {L a : Nat} {x : Ld} {o o' : Option Cand} (h : At W L a x o w) (hW : Inp W L x) (ea : a = W.heap.size) (hc : Cur w' a o') (hb : Below a w w') : At W L a x o' w' :=
  ⟨hc, hW.below (by rw [← ea]; exact h.bel.trans hb), h.bel.trans hb⟩
theorem At.same {W w w' : World} {L a : Nat} {x : Ld} {o : Option Cand} (h : At W L a x o w) (hb : Below w.heap.size w w') : At W L a x o w' :=
  ⟨h.cur.below hb, h.inp.below hb, h.bel.trans (hb.mono (by have := h.cur.time.lt; omega))⟩

theorem Cur.drewN {W : World} {a : Nat} {o : Option Cand} (h : Cur W a o) (q : Nat) : Cur (W.drewN q) a o := ⟨h.time, h.what, h.full⟩
theorem Inp.drewN {W : World} {L : Nat} {x : Ld} (h : Inp W L x) (q : Nat) : Inp (W.drewN q) L x := ⟨h.hp.drewN q, h.c0, h.c1, h.c2, h.c3, h.c4, h.c11, h.c12, h.c13, h.c14, h.c15, h.c16, h.rows⟩
theorem At.drewN {W w : World} {L a : Nat} {x : Ld} {o : Option Cand} (h : At W L a x o w) (q : Nat) : At W L a x o (w.drewN q) := ⟨h.cur.drewN q, h.inp.drewN q, below_drewN h.bel q⟩
theorem At.drew {W w : World} {L a : Nat} {x : Ld} {o : Option Cand} (h : At W L a x o w) : At W L a x o w.drew := h.drewN 1
theorem below_undrew {W w : World} {q : Nat} (h : Below (W.drewN q).heap.size (W.drewN q) w) : Below W.heap.size W w := ⟨h.os, h.tape, h.output, h.size, h.block⟩

set_option maxRecDepth 100000 in
set_option maxHeartbeats 8000000 in
theorem next_any {W : World} {L : Nat} {x : Ld} (h : Inp W L x) (hs : Small x) :
    Calls Yba.prog 9 #[.pointer (some ⟨L, 0, none⟩)] W fun e w' => e = .returned (.tuple #[tv (timeOf (nextO x)), .string (stepOf (nextO x))]) ∧ Below W.heap.size W w' := by
  obtain ⟨a, ea⟩ : ∃ a, a = W.heap.size := ⟨_, rfl⟩
  have hA1 : At W L a x none ((W.alloc (.cells [Value.int .u64 0, .int .i64 0, .pointer none].toArray 37)).alloc (.cells [Value.string { data := #[] }].toArray 57)) := by
    have hB : Below a W ((W.alloc (.cells [Value.int .u64 0, .int .i64 0, .pointer none].toArray 37)).alloc (.cells [Value.string { data := #[] }].toArray 57)) := ((Below.refl _ W).alloc (by omega) _).alloc (by simp only [World.size_alloc]; omega) _
    refine ⟨⟨?_, ?_, trivial⟩, h.below (by rw [← ea]; exact hB), hB⟩
    · rw [ea]; exact (Blk.new W 37 _).alloc _
    · have := Blk.new (W.alloc (.cells [Value.int .u64 0, .int .i64 0, .pointer none].toArray 37)) 57 [Value.string { data := #[] }]
      rw [World.size_alloc, ← ea] at this
      exact this
  go_enter Yba.func9, Yba.ntmps9
  go_upto_region 2 with (fail)
  generalize ((W.alloc (.cells [Value.int .u64 0, .int .i64 0, .pointer none].toArray 37)).alloc (.cells [Value.string { data := #[] }].toArray 57)) = w1 at hA1 ⊢
  rw [← ea]
  have EA := hide ea
  clear ea
  have n0 : (0 : Int) ≤ (x.n : Int) := by omega
  have n1 : (x.n : Int) ≤ 65536 := by have := hs.n1; omega
  go_upto_if 10 with (go_at_call 11; refine (hlen_any hA1.inp.hp).mono ?_; rintro e w2 ⟨rfl, ew⟩; obtain rfl := ew.symm)
  go_cut [] from 10 to 19 (fun W' => At W L a x (oBeat x) W')
  case first =>
    by_cases hn : 0 < x.n
    · have hn' : (0 : Int) < (x.n : Int) := by omega
      obtain ⟨nm, ag, ix, hsn⟩ := hA1.inp.hp.snd 0 hn
      have q2 := hsn.cell (i := 2) rfl
      have q3 := hsn.cell (i := 3) rfl
      have q4 := hsn.cell (i := 4) rfl
      have HC := hide (consider_any (n := x.D (x.p 0)) (s := sBeat) hA1.cur fBeat)
      unfold tv at HC
      go_wp2_with fail
      refine (first_any hA1.inp.hp hn).mono ?_
      rintro e w3 ⟨rfl, ew⟩
      obtain rfl := ew.symm
      go_wp2_with fail
      refine HC.out.mono ?_
      rintro e w4 ⟨rfl, hc4, hb4⟩
      go_wp2
      go_meet
      case rel =>
        have := hA1.go h EA.out hc4 hb4
        unfold oBeat
        rw [if_pos hn]
        exact this
    · have hn' : ¬ (0 : Int) < (x.n : Int) := by omega
      go_wp2
      go_meet
      case rel =>
        unfold oBeat
        rw [if_neg hn]
        exact hA1
  case rest =>
  clear hA1
  have hA1 := hcut
  clear hcut
  have i12 := hA1.inp.c12
  have i13 := hA1.inp.c13
  have i14 := hA1.inp.c14
  have HZ := hide (isZero_any x.sf)
  unfold tv at HZ
  go_upto_if 24 with (go_at_call 17; refine (HZ.out _).mono ?_; rintro e w2 ⟨rfl, hb2⟩)
  clear i12 i13 i14 HZ ew
  have hA2 := hA1.same hb2
  clear hA1 hb2
  by_cases hz : x.sf = 0
  · rw [show decide (x.sf = 0) = true by simpa using hz]
    have HZ := hide hz
    clear hz
    obtain ⟨c0, c1, c2, cw, ft, fw⟩ := hA2.cur.cells
    go_upto_region 5 with (fail)
    go_region
    go_wp2
    obtain ⟨d0, d1, d2, dw, _⟩ := hA2.cur.back.cells
    refine bodyPost_ret (results_next rfl rfl rfl ((cell_drew _ _).trans d0) ((cell_drew _ _).trans d1) ((cell_drew _ _).trans d2) ((cell_drew _ _).trans dw)) rfl ?_
    refine ⟨?_, by rw [← EA.out]; exact Below.back hA2.bel _ _ _ _⟩
    rw [show nextO x = oBeat x by unfold nextO; rw [if_pos HZ.out]]
    rfl
  · rw [show decide (x.sf = 0) = false by simpa using hz]
    have HZ := hide hz
    clear hz
    rename_i hK
    have b2 := hA2.inp.c2
    have b15 := hA2.inp.c15
    have k0 : (0 : Int) ≤ (x.k : Int) := by omega
    have s0 : (0 : Int) ≤ (x.nS : Int) := by omega
    have k1 : (x.k : Int) ≤ 50 := by have := hs.k1; omega
    have s1 : (x.nS : Int) ≤ 50 := by have := hs.s1; omega
    go_upto_region 6 with (fail)
    go_quiet (fail)
    go_upto_if 36 with (fail)
    clear b2 b15
    have hA3 := hA2.drewN nq
    clear hA2
    generalize w2.drewN nq = w3 at hA3 ⊢
    go_cut [] from 36 to 52 (fun W' => At W L a x (oStop x (oBeat x)) W')
    case first =>
      by_cases hks : x.k < x.nS
      · have e1 : oStop x (oBeat x) = cons (oBeat x) (x.sf + (x.d * ((x.k + 1 : Nat) : Int)).tdiv (x.nS : Int), sStop) := by unfold oStop; rw [if_pos hks]
        obtain ⟨T, eT⟩ : ∃ T, T = (x.d * ((x.k + 1 : Nat) : Int)).tdiv (x.nS : Int) := ⟨_, rfl⟩
        rw [← eT] at e1
        have hT : -9223372036854775808 ≤ T ∧ T ≤ 9223372036854775807 := by
          have q1 : (x.d * ((x.k + 1 : Nat) : Int)).natAbs ≤ 1073741824 * 42 := by
            rw [Int.natAbs_mul]
            exact Nat.mul_le_mul (by have := hs.d0; have := hs.d1; omega) (by have := hs.k1; omega)
          have q2 : T.natAbs ≤ 1073741824 * 42 := by
            rw [eT, Int.natAbs_tdiv]
            exact Nat.le_trans (Nat.div_le_self _ _) q1
          omega
        have HE1 := hide e1
        have HAt := hide (fun (W : World) => at_any (W := W) (v0 := x.v0) (v1 := x.v1) (v4 := x.v4) (k := x.k) (s := x.nS) hs.d0 hs.d1 (by have := hs.k1; omega) (by omega) (by have := hs.s1; omega))
        rw [← eT] at HAt
        clear e1 eT
        have HAdd := hide (fun (W : World) => add_any (W := W) (n := x.sf) (m := T) (by have := hs.f0; omega) (by have := hs.f1; omega) hT.1 hT.2)
        unfold tv at HAdd
        obtain ⟨S, eS⟩ : ∃ S, S = x.sf + T := ⟨_, rfl⟩
        have HC := hide (fun (W' : World) (hA : At W L a x (oBeat x) W') => consider_any (n := x.sf + T) (s := sStop) hA.cur fStop)
        unfold tv at HC
        have j0 := hA3.inp.c0
        have j1 := hA3.inp.c1
        have j2 := hA3.inp.c2
        have j3 := hA3.inp.c3
        have j4 := hA3.inp.c4
        have j12 := hA3.inp.c12
        have j13 := hA3.inp.c13
        have j14 := hA3.inp.c14
        have j15 := hA3.inp.c15
        have hks' : (x.k : Int) < (x.nS : Int) := by omega
        go_upto_region 7 with (fail)
        go_region_with (first | (go_at_call 18; refine (HAt.out _).mono ?_; rintro e w4 ⟨rfl, hb4⟩; have hA4 := (hA3.drewN _).same hb4; have l12 := hA4.inp.c12; have l13 := hA4.inp.c13; have l14 := hA4.inp.c14) | (go_at_call 12; refine (HAdd.out _).mono ?_; rintro e w5 ⟨rfl, hb5⟩; have hA5 := hA4.same hb5) | (go_at_call 14; refine (HC.out _ hA5).mono ?_; rintro e w6 ⟨rfl, hc6, hb6⟩))
        all_goals
          go_wp2
          go_meet
          case rel => rw [HE1.out]; exact hA5.go h EA.out hc6 hb6
      · have hks' : ¬ (x.k : Int) < (x.nS : Int) := by omega
        have e1 : oStop x (oBeat x) = oBeat x := by unfold oStop; rw [if_neg hks]
        have HE1 := hide e1
        clear e1
        go_wp2
        go_meet
        case rel => rw [HE1.out]; exact hA3
    case rest =>
    clear hA3
    rename_i hK1 hK2
    have hA4 := hcut
    clear hcut
    rename World => w4
    obtain ⟨o1, eo1⟩ : ∃ o, o = oStop x (oBeat x) := ⟨_, rfl⟩
    rw [← eo1] at hA4
    have EO1 := hide eo1
    clear eo1
    obtain ⟨ra, rc, erh⟩ := slice_form hA4.inp.rows
    have j11 := hA4.inp.c11
    rw [erh] at j11
    have HRH := hide erh
    clear erh
    have m0 : (0 : Int) ≤ (x.m : Int) := by omega
    have m1 : (x.m : Int) ≤ 65536 := by have := hs.m1; omega
    go_upto_if 58 with (fail)
    go_cut [] from 58 to 67 (fun W' => At W L a x (oRest x o1) W')
    case first =>
      by_cases hm : 0 < x.m
      · have hm' : (0 : Int) < (x.m : Int) := by omega
        obtain ⟨g, cap, egc, hg⟩ := row_form hA4.inp.rows hm
        rw [HRH.out] at egc
        cases egc
        have rr : x.rh = .slice (some ⟨g, 0, none⟩) x.m rc := HRH.out
        have rows := hA4.inp.rows
        rw [rr] at rows
        have q1 : w4.cell? ⟨g, 1, none⟩ = some (.int .u64 (x.R 0 % 1000000000)) := (World.ownsRow.cellAt rows 1 (by omega)).trans (rowR_get x.R (i := 0) (k := 1) hm (by omega))
        have q2 : w4.cell? ⟨g, 2, none⟩ = some (.int .i64 (x.R 0 / 1000000000)) := (World.ownsRow.cellAt rows 2 (by omega)).trans (rowR_get x.R (i := 0) (k := 2) hm (by omega))
        have q3 : w4.cell? ⟨g, 3, none⟩ = some (.pointer none) := (World.ownsRow.cellAt rows 3 (by omega)).trans (rowR_get x.R (i := 0) (k := 3) hm (by omega))
        have HC := hide (consider_any (n := x.R 0) (s := sRest) hA4.cur fRest)
        unfold tv at HC
        have e1 : oRest x o1 = cons o1 (x.R 0, sRest) := by unfold oRest; rw [if_pos hm]
        have HE1 := hide e1
        clear e1 rr rows
        go_wp2_with fail
        refine HC.out.mono ?_
        rintro e w6 ⟨rfl, hc6, hb6⟩
        go_wp2
        go_meet
        case rel => rw [HE1.out]; exact hA4.go h EA.out hc6 hb6
      · have hm' : ¬ (0 : Int) < (x.m : Int) := by omega
        have e1 : oRest x o1 = o1 := by unfold oRest; rw [if_neg hm]
        have HE1 := hide e1
        clear e1
        go_wp2
        go_meet
        case rel => rw [HE1.out]; exact hA4
    case rest =>
    clear hA4
    have hA5 := hcut
    clear hcut j11
    rename World => w5
    obtain ⟨o2, eo2⟩ : ∃ o, o = oRest x o1 := ⟨_, rfl⟩
    rw [← eo2] at hA5
    have EO2 := hide eo2
    clear eo2
    have j11 := hA5.inp.c11
    rw [HRH.out] at j11
    have j16 := hA5.inp.c16
    have j15 := hA5.inp.c15
    have j2 := hA5.inp.c2
    go_upto_region 10 with (fail)
    go_cut [92] from 68 to 92 (fun c W' => c = .bool (decide (x.lv = false ∧ x.k = x.nS ∧ x.m = 0)) ∧ At W L a x o2 W')
    case first =>
      cases hlv : x.lv with
      | true =>
        rw [hlv] at j16
        go_quiet (fail)
        go_wp2
        go_meet
        case rel => exact ⟨by simp [hlv], hA5.drewN _⟩
      | false =>
        rw [hlv] at j16
        by_cases hks : x.k = x.nS
        · have hks1 : ((x.k : Int) == (x.nS : Int)) = true := by simp [hks]
          rw [hks] at j15
          by_cases hm : x.m = 0
          · rw [hm] at j11
            go_quiet (fail)
            go_wp2
            go_meet
            case rel => exact ⟨by simp [hlv, hks, hm], hA5.drewN _⟩
          · have hm1 : ((x.m : Int) == 0) = false := by simp; omega
            have hm2 : (x.m == 0) = false := by simp; omega
            go_quiet (fail)
            go_wp2
            go_meet
            case rel => exact ⟨by simp [hlv, hm], hA5.drewN _⟩
        · have hks1 : ((x.k : Int) == (x.nS : Int)) = false := by simp; omega
          have hks2 : (x.k == x.nS) = false := by simp; omega
          go_quiet (fail)
          go_wp2
          go_meet
          case rel => exact ⟨by simp [hlv, hks], hA5.drewN _⟩
    case rest =>
    clear hA5 j11 j16 j15 j2
    obtain ⟨rfl, hA6⟩ := hcut
    rename World => w6
    go_upto_if 92 with (fail)
    go_cut [] from 92 to 104 (fun W' => At W L a x (oLeave x o2) W')
    case first =>
      by_cases hl : x.lv = false ∧ x.k = x.nS ∧ x.m = 0
      · have e1 : oLeave x o2 = cons o2 (x.sf + x.d, sLeave) := by unfold oLeave; rw [if_pos hl]
        have HE1 := hide e1
        rw [show decide (x.lv = false ∧ x.k = x.nS ∧ x.m = 0) = true by simpa using hl]
        clear e1 hl
        have HAdd := hide (fun (W : World) => add_any (W := W) (n := x.sf) (m := x.d) (by have := hs.f0; omega) (by have := hs.f1; omega) (by have := hs.d0; omega) (by have := hs.d1; omega))
        unfold tv at HAdd
        have HC := hide (fun (W' : World) (hA : At W L a x o2 W') => consider_any (n := x.sf + x.d) (s := sLeave) hA.cur fLeave)
        unfold tv at HC
        have j3 := hA6.inp.c3
        have j12 := hA6.inp.c12
        have j13 := hA6.inp.c13
        have j14 := hA6.inp.c14
        go_upto_region 11 with (fail)
        go_region_with (first | (go_at_call 12; refine (HAdd.out _).mono ?_; rintro e w7 ⟨rfl, hb7⟩; have hA7 := (hA6.drewN _).same hb7) | (go_at_call 14; refine (HC.out _ hA7).mono ?_; rintro e w8 ⟨rfl, hc8, hb8⟩))
        all_goals
          go_wp2
          go_meet
          case rel => rw [HE1.out]; exact hA7.go h EA.out hc8 hb8
      · have e1 : oLeave x o2 = o2 := by unfold oLeave; rw [if_neg hl]
        have HE1 := hide e1
        rw [show decide (x.lv = false ∧ x.k = x.nS ∧ x.m = 0) = false by simpa using hl]
        clear e1 hl
        go_wp2
        go_meet
        case rel => rw [HE1.out]; exact hA6
    case rest =>
    clear hA6
    have hA7 := hcut
    clear hcut
    rename World => w7
    obtain ⟨c0, c1, c2, cw, ft, fw⟩ := hA7.cur.cells
    go_upto_region 12 with (fail)
    go_region
    go_wp2
    obtain ⟨d0, d1, d2, dw, _⟩ := hA7.cur.back.cells
    refine bodyPost_ret (results_next rfl rfl rfl ((cell_drew _ _).trans d0) ((cell_drew _ _).trans d1) ((cell_drew _ _).trans d2) ((cell_drew _ _).trans dw)) rfl ?_
    refine ⟨?_, by rw [← EA.out]; exact Below.back hA7.bel _ _ _ _⟩
    rw [show nextO x = oLeave x o2 by unfold nextO; rw [if_neg HZ.out, EO2.out, EO1.out]]
    rfl
end Go.Proofs.Ybulkfhta.B
