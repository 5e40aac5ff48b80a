/-
  The function insert.
-/
import Derived.Test.YbulkfhsmBRemove
import Derived.Deep.AppendLies
import Derived.Deep.RegionLaw
namespace Go.Proofs.Ybulkfhsm.B
open Go.RowKit
attribute [local go_sem ↓] Go.wp_at_zero Go.wp_at_succ

theorem set_twice (w : World) (a : Addr) (u v : Value) (m : Nat) : ((w.setCell a u).drewN m).setCell a v = (w.setCell a v).drewN m := by
  simp only [World.setCell, World.drewN, World.mk.injEq, and_true]
  apply Array.ext_getElem?
  intro i
  simp only [Array.getElem?_modify]
  by_cases h : a.block = i
  · simp only [h, if_true]
    cases w.heap[i]? with
    | none => rfl
    | some o =>
      cases o <;> simp
      by_cases hs : a.spot.isSome = true <;> simp [hs]
  · simp [h]

theorem info69 : (Yba.prog.info? 69).map (fun i => (i.zero, i.size, i.bytes)) = some (some (.agg #[.int .i64 0, .int .i32 0, .int .i32 0, .bool false, .int .u32 0, .int .i32 0, .int .i32 0, .int .i32 0, .int .i32 0, .int .i32 0]), 10, 48) := by kernel_rfl

/-- The node as 'insert' builds it. -/
def nd0 (p tx nm : Int) (ex : Bool) (q : Int) : Nd := { place := p, txn := tx, name := nm, excl := ex, prio := q, left := -1, right := -1, least := 0, lex := 0, fex := 0 }

/-- What holds where the two ways of 'insert' to find a node meet again. -/
structure Got (base s rb n : Nat) (hdr : Value) (w : World) (ns : Nat → Nd) (fr : Int) (d : Nd) (v n' : Nat) (hdr' : Value) (fr' : Int) (W : World) : Prop where
  pool : Pool W base s hdr' n' (upd ns v d)
  lt : v < n'
  way : fr = -1 ∧ v = n ∧ n' = n + 1 ∧ fr' = -1 ∨ fr = (v : Int) ∧ n' = n ∧ fr' = (ns v).left
  free : W.cell? ⟨s, 1, none⟩ = some (.int .i32 fr')
  rng : ∃ r : Int, W.cell? ⟨s, 2, none⟩ = some (.int .u64 r)
  root : ∀ o, W.cell? ⟨rb, o, none⟩ = w.cell? ⟨rb, o, none⟩
  zs : ∀ o, W.frozen? ⟨s, o, none⟩ = false
  zr : ∀ o, W.frozen? ⟨rb, o, none⟩ = false
  kept : Kept (fun b => hdr.ownBlock = some b ∨ b = s) w W
  lies : hdr'.ownBlock = hdr.ownBlock ∨ ∃ g, hdr'.ownBlock = some g ∧ w.heap.size ≤ g

/-- What is known behind the three steps of the generator. -/
structure Pre (s rb : Nat) (fr : Int) (w w1 : World) : Prop where
  kept : Kept (fun b => b = s) w w1
  free : w1.cell? ⟨s, 1, none⟩ = some (.int .i32 fr)
  rng : ∃ r : Int, w1.cell? ⟨s, 2, none⟩ = some (.int .u64 r)
  root : ∀ o, w1.cell? ⟨rb, o, none⟩ = w.cell? ⟨rb, o, none⟩
  zs : ∀ o, w1.frozen? ⟨s, o, none⟩ = false
  zr : ∀ o, w1.frozen? ⟨rb, o, none⟩ = false
  bs : s < w.heap.size
  br : rb < w.heap.size

theorem got_new {base s rb n g cap : Nat} {hdr : Value} {w w1 W2 w3 : World} {ns : Nat → Nd} {d : Nd} (pr : Pre s rb (-1) w w1) (h0 : w1.cell? ⟨s, 0, none⟩ = some hdr) (hrs : rb ≠ s) (hrB : hdr.ownBlock ≠ some rb) (hsB : hdr.ownBlock ≠ some s)
    (h12 : w1.grownBy W2 none) (h23 : W2.grownBy w3 hdr.ownBlock) (own : w3.ownsRow base 69 10 (.slice (some ⟨g, 0, none⟩) (n + 1) cap) (n + 1) (flat ns n ++ d.cells)) (hat : hdr.ownBlock = some g ∨ g = W2.heap.size) :
    Got base s rb n hdr w ns (-1) d n (n + 1) (.slice (some ⟨g, 0, none⟩) (n + 1) cap) (-1) (w3.setCell ⟨s, 0, none⟩ (.slice (some ⟨g, 0, none⟩) (n + 1) cap)) := by
  have z1 := pr.kept.size
  have z2 := h12.size
  have bs := pr.bs
  have br := pr.br
  have gs : g ≠ s := by rcases hat with h | h; intro e; exact hsB (e ▸ h); omega
  have hs3 : w3.heap[s]? = w1.heap[s]? := (h23.block s (by omega) (fun e => hsB e.symm)).trans (h12.block s (by omega) (by simp))
  have hr3 : w3.heap[rb]? = w1.heap[rb]? := (h23.block rb (by omega) (fun e => hrB e.symm)).trans (h12.block rb (by omega) (by simp))
  obtain ⟨r, hr⟩ := pr.rng
  refine ⟨⟨?_, ?_, by simp [Value.ownBlock]; omega⟩, by omega, .inl ⟨rfl, rfl, rfl, rfl⟩, ?_, ⟨r, ?_⟩, ?_, ?_, ?_, ?_, ?_⟩
  · have e : flat (upd ns n d) (n + 1) = flat ns n ++ d.cells := by
      simp only [flat, upd_same]
      rw [flat_congr fun j hj => (upd_other ns d (show j ≠ n by omega))]
    rw [e]
    exact own.kept (row := some s) ⟨rfl, rfl, rfl, by simp, fun k _ hk => Below.heap_setCell _ _ _ _ (fun e => hk (by rw [e]))⟩ (.inr (by simp [Value.ownBlock]; omega))
  · exact World.cell?_setCell_same _ _ _ ((cell_at hs3 0).trans h0)
  · rw [World.cell?_setCell_other _ _ _ _ (by simp)]; exact (cell_at hs3 1).trans pr.free
  · rw [World.cell?_setCell_other _ _ _ _ (by simp)]; exact (cell_at hs3 2).trans hr
  · intro o; rw [World.cell?_setCell_other _ _ _ _ (by simp <;> omega)]; exact (cell_at hr3 o).trans (pr.root o)
  · intro o; rw [World.frozen?_setCell]; exact (frozen_at hs3 o).trans (pr.zs o)
  · intro o; rw [World.frozen?_setCell]; exact (frozen_at hr3 o).trans (pr.zr o)
  · exact (((pr.kept.mono fun k h => .inr h).trans (Kept.grown h12 (by simp))).trans (Kept.grown h23 fun k h => .inl h)).trans (Kept.setCell (X := fun b => hdr.ownBlock = some b ∨ b = s) _ _ _ (.inr rfl))
  · rcases hat with h | h
    · exact .inl (by rw [h]; rfl)
    · exact .inr ⟨g, rfl, by omega⟩

/-- What 'insert' leaves. -/
structure Inserted (base s rb k n : Nat) (hdr : Value) (w : World) (ns : Nat → Nd) (fr p : Int) (ex : Bool) (l : List Nat) (v n' : Nat) (hdr' : Value) (fr' r : Int) (ns' : Nat → Nd) (f' : Nat) (w' : World) : Prop where
  pool : Pool w' base s hdr' n' ns'
  good : G n' ns'
  tree : T n' ns' f' r (low ns p l ++ v :: high ns p l)
  place : (ns' v).place = p
  excl : (ns' v).excl = ex
  keep : ∀ j, j ≠ v → j ∉ l → ns' j = ns j
  places : ∀ j, j ≠ v → (ns' j).place = (ns j).place
  excls : ∀ j, j ≠ v → (ns' j).excl = (ns j).excl
  lt : v < n'
  out : v ∉ l
  way : fr = -1 ∧ v = n ∧ n' = n + 1 ∧ fr' = -1 ∨ fr = (v : Int) ∧ n' = n ∧ fr' = (ns v).left
  kept : Kept (fun b => hdr.ownBlock = some b ∨ b = s ∨ b = rb) w w'
  free : w'.cell? ⟨s, 1, none⟩ = some (.int .i32 fr')
  rng : ∃ q : Int, w'.cell? ⟨s, 2, none⟩ = some (.int .u64 q)
  other : ∀ o, o ≠ k → w'.cell? ⟨rb, o, none⟩ = w.cell? ⟨rb, o, none⟩
  root : w'.cell? ⟨rb, k, none⟩ = some (.int .i32 r)
  zs : ∀ o, w'.frozen? ⟨s, o, none⟩ = false
  zr : ∀ o, w'.frozen? ⟨rb, o, none⟩ = false
  lies : hdr'.ownBlock = hdr.ownBlock ∨ ∃ g, hdr'.ownBlock = some g ∧ w.heap.size ≤ g

theorem store10 {base s B n cap v : Nat} {w2 : World} {ns : Nat → Nd} {p tx nm q : Int} {ex : Bool} (hP : Pool w2 base s (.slice (some ⟨B, 0, none⟩) n cap) n ns) (hv : v < n) :
    Pool ((((((((((w2.setCell ⟨B, v * 10, none⟩ (.int .i64 p)).setCell ⟨B, v * 10 + 1, none⟩ (.int .i32 tx)).setCell ⟨B, v * 10 + 2, none⟩ (.int .i32 nm)).setCell ⟨B, v * 10 + 3, none⟩ (.bool ex)).setCell ⟨B, v * 10 + 4, none⟩ (.int .u32 q)).setCell ⟨B, v * 10 + 5, none⟩ (.int .i32 (-1))).setCell ⟨B, v * 10 + 6, none⟩ (.int .i32 (-1))).setCell ⟨B, v * 10 + 7, none⟩ (.int .i32 0)).setCell ⟨B, v * 10 + 8, none⟩ (.int .i32 0)).setCell ⟨B, v * 10 + 9, none⟩ (.int .i32 0)) base s (.slice (some ⟨B, 0, none⟩) n cap) n (upd ns v (nd0 p tx nm ex q)) ∧ w2.grownBy ((((((((((w2.setCell ⟨B, v * 10, none⟩ (.int .i64 p)).setCell ⟨B, v * 10 + 1, none⟩ (.int .i32 tx)).setCell ⟨B, v * 10 + 2, none⟩ (.int .i32 nm)).setCell ⟨B, v * 10 + 3, none⟩ (.bool ex)).setCell ⟨B, v * 10 + 4, none⟩ (.int .u32 q)).setCell ⟨B, v * 10 + 5, none⟩ (.int .i32 (-1))).setCell ⟨B, v * 10 + 6, none⟩ (.int .i32 (-1))).setCell ⟨B, v * 10 + 7, none⟩ (.int .i32 0)).setCell ⟨B, v * 10 + 8, none⟩ (.int .i32 0)).setCell ⟨B, v * 10 + 9, none⟩ (.int .i32 0)) (some B) := by
  obtain ⟨p0, q0⟩ := hP.store hv (k := 0) (by omega) (.int .i64 p) { ns v with place := p } rfl
  obtain ⟨p1, q1⟩ := p0.store hv (k := 1) (by omega) (.int .i32 tx) { ns v with place := p, txn := tx } (by simp [upd_same, Nd.cells])
  obtain ⟨p2, q2⟩ := p1.store hv (k := 2) (by omega) (.int .i32 nm) { ns v with place := p, txn := tx, name := nm } (by simp [upd_same, Nd.cells])
  obtain ⟨p3, q3⟩ := p2.store hv (k := 3) (by omega) (.bool ex) { ns v with place := p, txn := tx, name := nm, excl := ex } (by simp [upd_same, Nd.cells])
  obtain ⟨p4, q4⟩ := p3.store hv (k := 4) (by omega) (.int .u32 q) { ns v with place := p, txn := tx, name := nm, excl := ex, prio := q } (by simp [upd_same, Nd.cells])
  obtain ⟨p5, q5⟩ := p4.store hv (k := 5) (by omega) (.int .i32 (-1)) { ns v with place := p, txn := tx, name := nm, excl := ex, prio := q, left := -1 } (by simp [upd_same, Nd.cells])
  obtain ⟨p6, q6⟩ := p5.store hv (k := 6) (by omega) (.int .i32 (-1)) { ns v with place := p, txn := tx, name := nm, excl := ex, prio := q, left := -1, right := -1 } (by simp [upd_same, Nd.cells])
  obtain ⟨p7, q7⟩ := p6.store hv (k := 7) (by omega) (.int .i32 0) { ns v with place := p, txn := tx, name := nm, excl := ex, prio := q, left := -1, right := -1, least := 0 } (by simp [upd_same, Nd.cells])
  obtain ⟨p8, q8⟩ := p7.store hv (k := 8) (by omega) (.int .i32 0) { ns v with place := p, txn := tx, name := nm, excl := ex, prio := q, left := -1, right := -1, least := 0, lex := 0 } (by simp [upd_same, Nd.cells])
  obtain ⟨p9, q9⟩ := p8.store hv (k := 9) (by omega) (.int .i32 0) { ns v with place := p, txn := tx, name := nm, excl := ex, prio := q, left := -1, right := -1, least := 0, lex := 0, fex := 0 } (by simp [upd_same, Nd.cells])
  simp only [upd_upd] at p9
  exact ⟨p9, grown_trans q0 (grown_trans q1 (grown_trans q2 (grown_trans q3 (grown_trans q4 (grown_trans q5 (grown_trans q6 (grown_trans q7 (grown_trans q8 q9))))))))⟩

theorem got_reuse {base s rb B n cap v : Nat} {w w1 w2 W : World} {ns : Nat → Nd} {d : Nd} {o : Obj} (pr : Pre s rb (v : Int) w w1) (hrs : rb ≠ s) (hBr : B ≠ rb) (hBs : B ≠ s) (hv : v < n)
    (e2 : w2 = (w1.alloc o).setCell ⟨s, 1, none⟩ (.int .i32 (ns v).left)) (hP : Pool W base s (.slice (some ⟨B, 0, none⟩) n cap) n (upd ns v d)) (hg : w2.grownBy W (some B)) :
    Got base s rb n (.slice (some ⟨B, 0, none⟩) n cap) w ns (v : Int) d v n (.slice (some ⟨B, 0, none⟩) n cap) (ns v).left W := by
  have z1 := pr.kept.size
  have bs := pr.bs
  have br := pr.br
  have z2 : w2.heap.size = w1.heap.size + 1 := by rw [e2]; simp
  have hs3 : W.heap[s]? = w2.heap[s]? := hg.block s (by omega) (by simp; omega)
  have hr3 : W.heap[rb]? = w2.heap[rb]? := hg.block rb (by omega) (by simp; omega)
  have hr2 : w2.heap[rb]? = w1.heap[rb]? := by rw [e2, Below.heap_setCell _ _ _ _ (show rb ≠ s from hrs), Below.heap_alloc _ _ _ (by omega)]
  have a1 : ∀ i, (w1.alloc o).cell? ⟨s, i, none⟩ = w1.cell? ⟨s, i, none⟩ := fun i => World.cell?_alloc_old _ _ _ (by simp; omega)
  obtain ⟨r, hr⟩ := pr.rng
  refine ⟨hP, hv, .inr ⟨rfl, rfl, rfl⟩, ?_, ⟨r, ?_⟩, ?_, ?_, ?_, ?_, .inl rfl⟩
  · rw [cell_at hs3 1, e2]
    exact World.cell?_setCell_same _ _ _ ((a1 1).trans pr.free)
  · rw [cell_at hs3 2, e2, World.cell?_setCell_other _ _ _ _ (by simp), a1]; exact hr
  · intro i; rw [cell_at hr3 i, cell_at hr2 i]; exact pr.root i
  · intro i; rw [frozen_at hs3 i, e2, World.frozen?_setCell, World.frozen?_alloc_old _ _ _ (by simp; omega)]; exact pr.zs i
  · intro i; rw [frozen_at hr3 i, frozen_at hr2 i]; exact pr.zr i
  · have k2 : Kept (fun b => (Value.slice (some ⟨B, 0, none⟩) n cap).ownBlock = some b ∨ b = s) w1 w2 := by
      rw [e2]; exact ((Kept.refl _ _).alloc _).trans (Kept.setCell (X := fun b => (Value.slice (some ⟨B, 0, none⟩) n cap).ownBlock = some b ∨ b = s) _ _ _ (.inr rfl))
    exact ((pr.kept.mono fun k h => .inr h).trans k2).trans (Kept.grown hg fun k h => .inl h)

set_option maxRecDepth 100000 in
set_option maxHeartbeats 4000000 in
theorem insert_any {base s n rb k : Nat} {hdr : Value} {w : World} {ns : Nat → Nd} {f : Nat} {t fr p tx nm rn : Int} {ex : Bool} {l : List Nat} (hP : Pool w base s hdr n ns) (hG : G n ns) (hT : T n ns f t l)
    (hN : l.Nodup) (hS : Sorted ns l) (hrs : rb ≠ s) (hrB : hdr.ownBlock ≠ some rb)
    (cf : w.cell? ⟨s, 1, none⟩ = some (.int .i32 fr)) (cn : w.cell? ⟨s, 2, none⟩ = some (.int .u64 rn)) (cr : w.cell? ⟨rb, k, none⟩ = some (.int .i32 t)) (zs : ∀ o, w.frozen? ⟨s, o, none⟩ = false) (zr : ∀ o, w.frozen? ⟨rb, o, none⟩ = false)
    (hfr : fr = -1 ∧ n < 4096 ∨ ∃ v : Nat, v < n ∧ fr = (v : Int) ∧ v ∉ l) (hbase : base ≤ w.heap.size) :
    Calls Yba.prog 15 #[.pointer (some ⟨s, 0, none⟩), .pointer (some ⟨rb, k, none⟩), .int .i64 p, .int .i32 tx, .int .i32 nm, .bool ex] w fun e w' => e = .returned (.tuple #[]) ∧ ∃ (v n' : Nat) (hdr' : Value) (fr' r : Int) (ns' : Nat → Nd) (f' : Nat), Inserted base s rb k n hdr w ns fr p ex l v n' hdr' fr' r ns' f' w' := by
  go_enter Yba.func15, Yba.ntmps15
  go_wp2_with fail
  go_cut [] from 16 to 51 (fun W => ∃ (r : Int) (m : Nat), W = (w.setCell ⟨s, 2, none⟩ (.int .u64 r)).drewN m)
  case first =>
    go_region
    go_wp2
    go_meet
    case rel => exact ⟨_, 1, rfl⟩
  case rest =>
  obtain ⟨r, m, rfl⟩ := hcut
  go_wp2_with fail
  go_cut [] from 16 to 51 (fun W => ∃ (r : Int) (m : Nat), W = (w.setCell ⟨s, 2, none⟩ (.int .u64 r)).drewN m)
  case first =>
    go_region
    go_wp2
    go_meet
    case rel => exact ⟨_, m + 1, by rw [set_twice]⟩
  case rest =>
  clear r m
  obtain ⟨r, m, rfl⟩ := hcut
  go_wp2_with fail
  go_cut [] from 16 to 51 (fun W => ∃ (r : Int) (m : Nat), W = (w.setCell ⟨s, 2, none⟩ (.int .u64 r)).drewN m)
  case first =>
    go_region
    go_wp2
    go_meet
    case rel => exact ⟨_, m + 1, by rw [set_twice]⟩
  case rest =>
  clear r m
  obtain ⟨r, m, rfl⟩ := hcut
  have hsB : hdr.ownBlock ≠ some s := hP.ne
  obtain ⟨w1, e1⟩ : ∃ q : World, q = (w.setCell ⟨s, 2, none⟩ (.int .u64 r)).drewN m := ⟨_, rfl⟩
  have hP1 : Pool w1 base s hdr n ns := by rw [e1]; exact (hP.setOther ⟨s, 2, none⟩ _ hsB (by simp)).drewN m
  have cf1 : w1.cell? ⟨s, 1, none⟩ = some (.int .i32 fr) := by rw [e1, World.cell?_drewN, World.cell?_setCell_other _ _ _ _ (by simp)]; exact cf
  have cn1 : w1.cell? ⟨s, 2, none⟩ = some (.int .u64 r) := by rw [e1, World.cell?_drewN]; exact World.cell?_setCell_same _ _ _ cn
  have cr1 : ∀ o, w1.cell? ⟨rb, o, none⟩ = w.cell? ⟨rb, o, none⟩ := fun o => by rw [e1, World.cell?_drewN, World.cell?_setCell_other _ _ _ _ (by simp <;> omega)]
  have zs1 : ∀ o, w1.frozen? ⟨s, o, none⟩ = false := fun o => by rw [e1, World.frozen?_drewN, World.frozen?_setCell]; exact zs o
  have zr1 : ∀ o, w1.frozen? ⟨rb, o, none⟩ = false := fun o => by rw [e1, World.frozen?_drewN, World.frozen?_setCell]; exact zr o
  have K1 : Kept (fun b => b = s) w w1 := by rw [e1]; exact (Kept.setCell (X := fun b => b = s) w _ _ rfl).drewN m
  have bs : s < w.heap.size := World.block_lt_of_cell? w ⟨s, 1, none⟩ cf
  have br : rb < w.heap.size := World.block_lt_of_cell? w ⟨rb, k, none⟩ cr
  have bs1 : s ≠ w1.heap.size := by have := K1.size; omega
  have h01 := hP1.hd
  have H01 := hide h01
  have PR : Pre s rb fr w w1 := ⟨K1, cf1, ⟨r, cn1⟩, cr1, zs1, zr1, bs, br⟩
  rw [← e1]
  clear e1
  have A1 : ∀ (o : Obj) (i : Nat), (w1.alloc o).cell? ⟨s, i, none⟩ = w1.cell? ⟨s, i, none⟩ := fun o i => World.cell?_alloc_old _ _ _ bs1
  go_upto_if 69 with (fail)
  generalize (IntKind.u64.wrap (r * 2685821657736338717) / 4294967296 % 4294967296) = q
  go_cut [13] from 12 to 103 (fun x W => ∃ (v n' : Nat) (hdr' : Value) (fr' : Int), x = .int .i32 v ∧ Got base s rb n hdr w ns fr (nd0 p tx nm ex q) v n' hdr' fr' W)
  case first =>
    rcases hfr with ⟨rfl, hn⟩ | ⟨v, hv, rfl, hvl⟩
    · obtain ⟨i, hi, hz0, hz1, hz2⟩ := info_parts info69
      have hlen : ((n : Nat) : Int) ≤ 4096 := by omega
      obtain ⟨a0, cap0, rfl⟩ : ∃ a cap, hdr = .slice a n cap := by
        rcases hP.own.2 with ⟨rfl, rfl⟩ | ⟨g, cap, cur, rfl, _⟩
        · exact ⟨none, 0, rfl⟩
        · exact ⟨_, cap, rfl⟩
      go_wp2_with fail
      obtain ⟨N, eN⟩ : ∃ y : Nat, y = w1.heap.size := ⟨_, rfl⟩
      obtain ⟨w2, e2⟩ : ∃ y : World, y = w1.alloc (.cells #[.int .i64 p, .int .i32 tx, .int .i32 nm, .bool ex, .int .u32 q, .int .i32 (-1), .int .i32 (-1), .int .i32 0, .int .i32 0, .int .i32 0] 69) := ⟨_, rfl⟩
      have m0 : w2.cell? ⟨N, 0, none⟩ = some (.int .i64 p) := by rw [e2]; simp [eN]
      have m1 : w2.cell? ⟨N, 1, none⟩ = some (.int .i32 tx) := by rw [e2]; simp [eN]
      have m2 : w2.cell? ⟨N, 2, none⟩ = some (.int .i32 nm) := by rw [e2]; simp [eN]
      have m3 : w2.cell? ⟨N, 3, none⟩ = some (.bool ex) := by rw [e2]; simp [eN]
      have m4 : w2.cell? ⟨N, 4, none⟩ = some (.int .u32 q) := by rw [e2]; simp [eN]
      have m5 : w2.cell? ⟨N, 5, none⟩ = some (.int .i32 (-1)) := by rw [e2]; simp [eN]
      have m6 : w2.cell? ⟨N, 6, none⟩ = some (.int .i32 (-1)) := by rw [e2]; simp [eN]
      have m7 : w2.cell? ⟨N, 7, none⟩ = some (.int .i32 0) := by rw [e2]; simp [eN]
      have m8 : w2.cell? ⟨N, 8, none⟩ = some (.int .i32 0) := by rw [e2]; simp [eN]
      have m9 : w2.cell? ⟨N, 9, none⟩ = some (.int .i32 0) := by rw [e2]; simp [eN]
      have sz2 : w2.heap.size = N + 1 := by rw [e2, eN]; simp
      have hP2 : Pool w2 base s (.slice a0 n cap0) n ns := ⟨by rw [e2]; exact hP1.own.alloc _, by rw [e2, A1]; exact h01, hP1.ne⟩
      have f2 : ∀ o, w2.frozen? ⟨s, o, none⟩ = false := fun o => by rw [e2, World.frozen?_alloc_old _ _ _ bs1]; exact zs1 o
      have h02 := hP2.hd
      have bs2 : s ≠ w2.heap.size := by have := K1.size; omega
      have A2 : ∀ (o : Obj) (i : Nat), (w2.alloc o).cell? ⟨s, i, none⟩ = w2.cell? ⟨s, i, none⟩ := fun o i => World.cell?_alloc_old _ _ _ bs2
      have A3 : ∀ (o : Obj) (i : Nat), (w2.alloc o).frozen? ⟨s, i, none⟩ = false := fun o i => by rw [World.frozen?_alloc_old _ _ _ bs2]; exact f2 i
      rw [← e2, ← eN]
      have E2 := hide e2
      have EN := hide eN
      have SZ := hide sz2
      have HNE : some s ≠ (Value.slice a0 n cap0).ownBlock := fun e => hP2.ne e.symm
      have bl2 : s < w2.heap.size := by have := K1.size; omega
      clear e2 eN sz2 A1 h01 cf1 cn1 cr1 zs1 zr1 cf cn cr zs zr
      go_region_law ((refine step_append_lies _ (by rfl) _ _ _ (by rfl) base 69 i _ 10 48 Yba.underlying51 hi hz0 hz1 hz2 rfl (by omega) _ n (flat ns n) (by rfl) (by exact hP2.own.alloc _) _ 1 1 (nd0 p tx nm ex q).cells (by rfl) (by rfl) (by exact World.news_of_block (heap_alloc_new _ _)) (by simp [nd0, Nd.cells, Value.oneCell']) (by omega) (by simp only [maxLen]; omega) (by omega) (by simp only [World.size_alloc, World.size_drew]; have := K1.size; rw [SZ.out]; have := EN.out; omega) _ rfl ?_; intro g cap w3 hown hgrow hat hlt; have hs3 := hgrow.cell (a := ⟨s, 0, none⟩) (v := .slice a0 n cap0) (by simp only [World.cell?_drew]; rw [A2]; exact h02) HNE; have fs3 : ∀ o, w3.frozen? ⟨s, o, none⟩ = false := fun o => (frozen_at (hgrow.block s (by simp only [World.size_alloc, World.size_drew]; omega) HNE) o).trans (A3 _ o)))
      all_goals
        go_wp2
        go_meet
        case rel => exact ⟨n, n + 1, _, -1, rfl, got_new PR H01.out hrs hrB hsB (by rw [E2.out]; exact ⟨rfl, rfl, rfl, by simp; omega, fun k hk _ => (Below.heap_alloc _ _ _ (by simp; omega)).trans (Below.heap_alloc _ _ _ hk)⟩) hgrow hown hat⟩
    · obtain ⟨B, cap, rfl, hb, hBs, hc, hm⟩ := hP.form (by omega)
      have hne : ((v : Int) == -1) = false := by simp
      have g1 : (0 : Int) ≤ (v : Int) := by omega
      have g2 : (v : Int) < (n : Int) := by omega
      have BA : B ≠ w1.heap.size := by
        have := (hP1.own.lt B rfl).2; omega
      have A2 : ∀ (o : Obj) (i : Nat), (w1.alloc o).cell? ⟨B, i, none⟩ = w1.cell? ⟨B, i, none⟩ := fun o i => World.cell?_alloc_old _ _ _ BA
      have A3 : ∀ (o : Obj) (i : Nat), (w1.alloc o).frozen? ⟨s, i, none⟩ = false := fun o i => by rw [World.frozen?_alloc_old _ _ _ bs1]; exact zs1 i
      have A4 : ∀ (o : Obj) (i : Nat), (w1.alloc o).frozen? ⟨B, i, none⟩ = false := fun o i => by rw [World.frozen?_alloc_old _ _ _ BA]; exact hP1.frozen i
      have c5 : w1.cell? ⟨B, v * 10 + 5, none⟩ = some (.int .i32 (ns v).left) := hP1.cell hv (k := 5) (by omega)
      go_wp2_with fail
      obtain ⟨N, eN⟩ : ∃ y : Nat, y = w1.heap.size := ⟨_, rfl⟩
      obtain ⟨w2, e2⟩ : ∃ y : World, y = (w1.alloc (.cells #[.int .i64 p, .int .i32 tx, .int .i32 nm, .bool ex, .int .u32 q, .int .i32 (-1), .int .i32 (-1), .int .i32 0, .int .i32 0, .int .i32 0] 69)).setCell ⟨s, 1, none⟩ (.int .i32 (ns v).left) := ⟨_, rfl⟩
      have m0 : w2.cell? ⟨N, 0, none⟩ = some (.int .i64 p) := by rw [e2, World.cell?_setCell_other _ _ _ _ (by simp <;> omega)]; simp [eN]
      have m1 : w2.cell? ⟨N, 1, none⟩ = some (.int .i32 tx) := by rw [e2, World.cell?_setCell_other _ _ _ _ (by simp <;> omega)]; simp [eN]
      have m2 : w2.cell? ⟨N, 2, none⟩ = some (.int .i32 nm) := by rw [e2, World.cell?_setCell_other _ _ _ _ (by simp <;> omega)]; simp [eN]
      have m3 : w2.cell? ⟨N, 3, none⟩ = some (.bool ex) := by rw [e2, World.cell?_setCell_other _ _ _ _ (by simp <;> omega)]; simp [eN]
      have m4 : w2.cell? ⟨N, 4, none⟩ = some (.int .u32 q) := by rw [e2, World.cell?_setCell_other _ _ _ _ (by simp <;> omega)]; simp [eN]
      have m5 : w2.cell? ⟨N, 5, none⟩ = some (.int .i32 (-1)) := by rw [e2, World.cell?_setCell_other _ _ _ _ (by simp <;> omega)]; simp [eN]
      have m6 : w2.cell? ⟨N, 6, none⟩ = some (.int .i32 (-1)) := by rw [e2, World.cell?_setCell_other _ _ _ _ (by simp <;> omega)]; simp [eN]
      have m7 : w2.cell? ⟨N, 7, none⟩ = some (.int .i32 0) := by rw [e2, World.cell?_setCell_other _ _ _ _ (by simp <;> omega)]; simp [eN]
      have m8 : w2.cell? ⟨N, 8, none⟩ = some (.int .i32 0) := by rw [e2, World.cell?_setCell_other _ _ _ _ (by simp <;> omega)]; simp [eN]
      have m9 : w2.cell? ⟨N, 9, none⟩ = some (.int .i32 0) := by rw [e2, World.cell?_setCell_other _ _ _ _ (by simp <;> omega)]; simp [eN]
      have hP2 : Pool w2 base s (.slice (some ⟨B, 0, none⟩) n cap) n ns := by
        rw [e2]
        refine Pool.setOther ⟨hP1.own.alloc _, by rw [A1]; exact h01, hP1.ne⟩ _ _ (by simp [Value.ownBlock]; exact hBs) (by simp)
      have h02 := hP2.hd
      have b0 : w2.cell? ⟨B, v * 10, none⟩ = some (.int .i64 (ns v).place) := hP2.cell hv (k := 0) (by omega)
      have b1 : w2.cell? ⟨B, v * 10 + 1, none⟩ = some (.int .i32 (ns v).txn) := hP2.cell hv (k := 1) (by omega)
      have b2 : w2.cell? ⟨B, v * 10 + 2, none⟩ = some (.int .i32 (ns v).name) := hP2.cell hv (k := 2) (by omega)
      have b3 : w2.cell? ⟨B, v * 10 + 3, none⟩ = some (.bool (ns v).excl) := hP2.cell hv (k := 3) (by omega)
      have b4 : w2.cell? ⟨B, v * 10 + 4, none⟩ = some (.int .u32 (ns v).prio) := hP2.cell hv (k := 4) (by omega)
      have b5 : w2.cell? ⟨B, v * 10 + 5, none⟩ = some (.int .i32 (ns v).left) := hP2.cell hv (k := 5) (by omega)
      have b6 : w2.cell? ⟨B, v * 10 + 6, none⟩ = some (.int .i32 (ns v).right) := hP2.cell hv (k := 6) (by omega)
      have b7 : w2.cell? ⟨B, v * 10 + 7, none⟩ = some (.int .i32 (ns v).least) := hP2.cell hv (k := 7) (by omega)
      have b8 : w2.cell? ⟨B, v * 10 + 8, none⟩ = some (.int .i32 (ns v).lex) := hP2.cell hv (k := 8) (by omega)
      have b9 : w2.cell? ⟨B, v * 10 + 9, none⟩ = some (.int .i32 (ns v).fex) := hP2.cell hv (k := 9) (by omega)
      have f2 := hP2.frozen
      rw [← e2, ← eN]
      have E2 := hide e2
      have EN := hide eN
      clear e2 eN A1 A2 A3 A4 h01 cf1 cn1 cr1 zs1 zr1 cf cn cr zs zr c5
      go_region
      go_wp2
      go_meet
      case rel =>
        obtain ⟨p3, g3⟩ := store10 (p := p) (tx := tx) (nm := nm) (q := q) (ex := ex) hP2 hv
        exact ⟨v, n, _, _, rfl, got_reuse PR hrs (fun e => hrB (by simp [Value.ownBlock, e])) hBs hv E2.out (p3.drewN 1) (grown_drewN g3 1)⟩
  case rest =>
    obtain ⟨v, n', hdr', fr', rfl, got⟩ := hcut
    have hnn : n ≤ n' := by rcases got.way with h | h <;> omega
    have hvl : v ∉ l := by
      rcases got.way with ⟨h, h', _⟩ | ⟨h, _⟩
      · intro e; have := hT.lt v e; omega
      · rcases hfr with ⟨h2, _⟩ | ⟨v', _, h2, h3⟩
        · omega
        · obtain rfl : v = v' := by omega
          exact h3
    clear hfr
    have hlt := got.lt
    have hrB' : hdr'.ownBlock ≠ some rb := by
      rcases got.lies with h | ⟨g, h, h'⟩
      · rw [h]; exact hrB
      · rw [h]; intro e; obtain rfl := Option.some.inj e; omega
    have hPc := got.pool
    obtain ⟨B, cap, rfl, hb, hBs, hc, hm⟩ := hPc.form (by omega)
    have hBr : B ≠ rb := fun e => hrB' (by simp [Value.ownBlock, e])
    obtain ⟨ns1, e1⟩ : ∃ y, y = upd ns v (nd0 p tx nm ex q) := ⟨_, rfl⟩
    rw [← e1] at hPc
    have s1 : ns1 v = nd0 p tx nm ex q := by rw [e1, upd_same]
    have o1 : ∀ j, j ≠ v → ns1 j = ns j := fun j hj => by rw [e1, upd_other _ _ hj]
    have G1 : G n' ns1 := by
      intro j hj
      by_cases e : j = v
      · subst e; rw [s1]; exact ⟨⟨0, by omega, rfl⟩, .inr ⟨0, by omega, rfl⟩⟩
      · rw [o1 j e]
        have hjn : j < n := by rcases got.way with h | h <;> omega
        obtain ⟨⟨a, ha, ha'⟩, hx⟩ := hG j hjn
        refine ⟨⟨a, by omega, ha'⟩, ?_⟩
        rcases hx with hx | ⟨b, hb, hx⟩
        · exact .inl hx
        · exact .inr ⟨b, by omega, hx⟩
    have T1 : T n' ns1 f t l := (hT.larger hnn).frame fun j hj => o1 j (fun e => hvl (e ▸ hj))
    have S1 := hide s1
    have O1 := hide o1
    clear s1 o1 e1 cf1 cn1 cr1 zs1 zr1 cf cn zs zr A1 h01
    go_wp2_with fail
    refine (update_any hPc v hlt G1 (by rw [S1.out]; exact .inl rfl) (by rw [S1.out]; exact .inl rfl) (by rw [S1.out]; show (-1 : Int) ≠ v; omega) (by rw [S1.out]; show (-1 : Int) ≠ v; omega)).mono ?_
    rintro e w3 ⟨rfl, a, b, ha, hb', hP3, hg3⟩
    obtain ⟨ns2, e2⟩ : ∃ y, y = upd ns1 v (upNd (ns1 v) a b (fexF ns1 (own0 (ns1 v).excl v) (ns1 v).left (ns1 v).right)) := ⟨_, rfl⟩
    rw [← e2] at hP3
    have t2 : T n' ns2 1 (v : Int) [v] := by
      rw [e2]
      exact T.node (f := 0) (l1 := []) (l2 := []) hlt (by rw [S1.out]; exact T.nil _ _ _) (by rw [S1.out]; exact T.nil _ _ _) (by simp) (by simp)
    have G2 : G n' ns2 := by rw [e2]; exact G1.upd ⟨a, ha, rfl⟩ hb'
    have o2 : ∀ j, j ≠ v → ns2 j = ns j := fun j hj => by rw [e2, upd_other _ _ hj]; exact O1.out j hj
    have s2 : (ns2 v).place = p ∧ (ns2 v).excl = ex := by rw [e2, upd_same, S1.out]; exact ⟨rfl, rfl⟩
    have T2 : T n' ns2 f t l := T1.frame fun j hj => by rw [o2 j (fun e => hvl (e ▸ hj)), O1.out j (fun e => hvl (e ▸ hj))]
    have S2 : Sorted ns2 l := List.Pairwise.imp_of_mem (fun {x y} hx hy h => by rw [o2 x (fun e => hvl (e ▸ hx)), o2 y (fun e => hvl (e ▸ hy))]; exact h) hS
    have EL : low ns2 p l = low ns p l := List.filter_congr fun j hj => by rw [o2 j (fun e => hvl (e ▸ hj))]
    have EH : high ns2 p l = high ns p l := List.filter_congr fun j hj => by rw [o2 j (fun e => hvl (e ▸ hj))]
    have bsc : s < wc.heap.size := by have := got.kept.size; omega
    have brc : rb < wc.heap.size := by have := got.kept.size; omega
    have gs3 : ∀ i : Nat, i < wc.heap.size → i ≠ B → w3.heap[i]? = wc.heap[i]? := fun i hi hn => hg3.block i hi (by simpa using hn)
    have r3 : w3.cell? ⟨rb, k, none⟩ = some (.int .i32 t) := (cell_at (gs3 rb brc (by omega)) k).trans ((got.root k).trans cr)
    have HO2 := hide o2
    have HS2 := hide s2
    have HEL := hide EL
    have HEH := hide EH
    have HG3 := hide gs3
    clear o2 s2 EL EH gs3 e2 cr
    go_wp2_with fail
    refine (split_any p f w3 ns2 t l hP3 G2 T2 hN S2).mono ?_
    rintro e w4 ⟨ns4, x, y, rfl, hP4, hg4, G4, C4, tx4, ty4⟩
    rw [HEL.out] at tx4
    rw [HEH.out] at ty4
    have tv4 : T n' ns4 1 (v : Int) [v] := t2.frame fun j hj => by rw [List.mem_singleton.1 hj]; exact C4.keep v hvl
    have nd : (low ns p l ++ v :: high ns p l).Nodup := by
      have h1 : (low ns p l).Nodup := List.Nodup.sublist List.filter_sublist hN
      have h2 : (high ns p l).Nodup := List.Nodup.sublist List.filter_sublist hN
      rw [List.nodup_append, List.nodup_cons]
      refine ⟨h1, ⟨fun e => hvl (List.mem_filter.1 e).1, h2⟩, fun a ha b hb e => ?_⟩
      subst e
      rcases List.mem_cons.1 hb with rfl | hb
      · exact hvl (List.mem_filter.1 ha).1
      · have q1 := (List.mem_filter.1 ha).2
        have q2 := (List.mem_filter.1 hb).2
        simp only [decide_eq_true_eq] at q1
        simp only [Bool.not_eq_eq_eq_not, Bool.not_true, decide_eq_false_iff_not] at q2
        exact q2 q1
    obtain ⟨d1, d2, d3, d4, d5⟩ := nodup_node nd
    go_wp2_with fail
    refine (merge_any _ f 1 (Nat.le_refl _) w4 ns4 x (v : Int) (low ns p l) [v] hP4 G4 tx4 tv4 (by
      rw [List.nodup_append]; exact ⟨d1, by simp, fun a ha b hb e => d3 (by rw [List.mem_singleton.1 hb] at e; exact e ▸ ha)⟩)).mono ?_
    rintro e w5 ⟨ns5, r5, rfl, hP5, hg5, G5, C5, t5⟩
    have ty5 : T n' ns5 f y (high ns p l) := ty4.frame fun j hj => C5.keep j (by
      simp only [List.mem_append, List.mem_singleton]; intro h; rcases h with h | rfl; exact d5 j h hj; exact d4 hj)
    go_wp2_with fail
    refine (merge_any _ (f + 1) f (Nat.le_refl _) w5 ns5 r5 y (low ns p l ++ [v]) (high ns p l) hP5 G5 t5 ty5 (by simpa using nd)).mono ?_
    rintro e w6 ⟨ns6, r6, rfl, hP6, hg6, G6, C6, t6⟩
    have gs6 : ∀ i : Nat, i < wc.heap.size → i ≠ B → w6.heap[i]? = wc.heap[i]? := fun i hi hn => by
      have z3 := hg3.size
      have z4 := hg4.size
      have z5 := hg5.size
      rw [hg6.block i (by omega) (by simpa [Value.ownBlock] using hn), hg5.block i (by omega) (by simpa [Value.ownBlock] using hn), hg4.block i (by omega) (by simpa [Value.ownBlock] using hn)]
      exact HG3.out i hi hn
    have r6c : w6.cell? ⟨rb, k, none⟩ = some (.int .i32 t) := (cell_at (gs6 rb brc (by omega)) k).trans ((cell_at (HG3.out rb brc (by omega)) k).symm.trans r3)
    have zr6 : ∀ o, w6.frozen? ⟨rb, o, none⟩ = false := fun o => (frozen_at (gs6 rb brc (by omega)) o).trans (got.zr o)
    have HG6 := hide gs6
    clear gs6 r3
    go_wp2
    go_end0
    have hs6 := HG6.out s bsc (by omega)
    have hr6 := HG6.out rb brc (by omega)
    have pl : ∀ j, j ≠ v → (ns6 j).place = (ns j).place ∧ (ns6 j).excl = (ns j).excl := fun j hj => by
      rw [C6.place, C5.place, C4.place, C6.excl, C5.excl, C4.excl, HO2.out j hj]; exact ⟨rfl, rfl⟩
    obtain ⟨q, hq⟩ := got.rng
    have K6 : Kept (fun b => hdr.ownBlock = some b ∨ b = s ∨ b = rb ∨ (b = B ∧ w.heap.size ≤ b)) w (w6.setCell ⟨rb, k, none⟩ (.int .i32 r6)) := by
      have kB : ∀ {a b : World}, a.grownBy b (some B) → Kept (fun b => hdr.ownBlock = some b ∨ b = s ∨ b = rb ∨ (b = B ∧ w.heap.size ≤ b)) a b := fun h => Kept.grown h fun i hi => by
        obtain rfl := Option.some.inj hi
        rcases got.lies with hl | ⟨g, hl, hl'⟩
        · exact .inl (by rw [← hl]; rfl)
        · obtain rfl := Option.some.inj hl; exact .inr (.inr (.inr ⟨rfl, hl'⟩))
      exact (((((got.kept.mono fun i h => by rcases h with h | h; exact .inl h; exact .inr (.inl h)).trans (kB hg3)).trans (kB hg4)).trans (kB hg5)).trans (kB hg6)).trans (Kept.setCell _ _ _ (.inr (.inr (.inl rfl))))
    refine ⟨rfl, v, n', _, fr', r6, ns6, f + 1 + f, ⟨hP6.setOther _ _ (by simp [Value.ownBlock]; exact hBr) (by simp <;> omega), G6, by simpa using t6, ?_, ?_, ?_, fun j hj => (pl j hj).1, fun j hj => (pl j hj).2, hlt, hvl, got.way, ?_, ?_, ⟨q, ?_⟩, ?_, ?_, ?_, ?_, got.lies⟩⟩
    · rw [C6.place, C5.place, C4.place]; exact HS2.out.1
    · rw [C6.excl, C5.excl, C4.excl]; exact HS2.out.2
    · intro j hj hl
      have q1 : j ∉ low ns p l := fun e => hl (List.mem_filter.1 e).1
      have q2 : j ∉ high ns p l := fun e => hl (List.mem_filter.1 e).1
      rw [C6.keep j (by simp only [List.mem_append, List.mem_singleton]; intro h; rcases h with (h | h) | h; exact q1 h; exact hj h; exact q2 h),
        C5.keep j (by simp only [List.mem_append, List.mem_singleton]; intro h; rcases h with h | h; exact q1 h; exact hj h), C4.keep j hl]
      exact HO2.out j hj
    · exact ⟨K6.os, K6.tape, K6.output, K6.size, fun i hi hx => K6.block i hi fun h => by
        rcases h with h | h | h | h
        · exact hx (.inl h)
        · exact hx (.inr (.inl h))
        · exact hx (.inr (.inr h))
        · omega⟩
    · rw [World.cell?_setCell_other _ _ _ _ (by simp <;> omega)]; exact (cell_at hs6 1).trans got.free
    · rw [World.cell?_setCell_other _ _ _ _ (by simp <;> omega)]; exact (cell_at hs6 2).trans hq
    · intro o ho; rw [World.cell?_setCell_other _ _ _ _ (by simp <;> omega)]; exact (cell_at hr6 o).trans (got.root o)
    · exact World.cell?_setCell_same _ _ _ r6c
    · intro o; rw [World.frozen?_setCell]; exact (frozen_at hs6 o).trans (got.zs o)
    · intro o; rw [World.frozen?_setCell]; exact zr6 o
end Go.Proofs.Ybulkfhsm.B
