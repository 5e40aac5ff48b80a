/-
  The function remove.
-/
import Derived.Test.YbulkfhsmBMerge
namespace Go.Proofs.Ybulkfhsm.B
open Go.RowKit
attribute [local go_sem ↓] Go.wp_at_zero Go.wp_at_succ

/-- Outside the blocks of X nothing has turned. -/
structure Kept (X : Nat → Prop) (w w' : World) : Prop where
  os : w'.os = w.os
  tape : w'.tape = w.tape
  output : w'.output = w.output
  size : w.heap.size ≤ w'.heap.size
  block : ∀ k, k < w.heap.size → ¬ X k → w'.heap[k]? = w.heap[k]?

theorem Kept.refl (X : Nat → Prop) (w : World) : Kept X w w := ⟨rfl, rfl, rfl, Nat.le_refl _, fun _ _ _ => rfl⟩
theorem Kept.trans {X : Nat → Prop} {a b c : World} (h : Kept X a b) (k : Kept X b c) : Kept X a c :=
  ⟨k.os.trans h.os, k.tape.trans h.tape, k.output.trans h.output, Nat.le_trans h.size k.size, fun i hi hr => (k.block i (Nat.lt_of_lt_of_le hi h.size) hr).trans (h.block i hi hr)⟩
theorem Kept.mono {X Y : Nat → Prop} {a b : World} (h : Kept X a b) (hX : ∀ k, X k → Y k) : Kept Y a b := ⟨h.os, h.tape, h.output, h.size, fun k hk hy => h.block k hk fun x => hy (hX k x)⟩
theorem Kept.grown {X : Nat → Prop} {a b : World} {row : Option Nat} (h : a.grownBy b row) (hX : ∀ k, row = some k → X k) : Kept X a b :=
  ⟨h.os, h.tape, h.output, h.size, fun k hk hx => h.block k hk fun e => hx (hX k e.symm)⟩
theorem Kept.setCell {X : Nat → Prop} (w : World) (a : Addr) (v : Value) (hX : X a.block) : Kept X w (w.setCell a v) :=
  ⟨rfl, rfl, rfl, by simp, fun k _ hx => Below.heap_setCell _ _ _ _ (fun e => hx (e ▸ hX))⟩
theorem Kept.drewN {X : Nat → Prop} {a b : World} (h : Kept X a b) (k : Nat) : Kept X a (b.drewN k) := ⟨h.os, h.tape, h.output, h.size, h.block⟩
theorem Kept.drew {X : Nat → Prop} {a b : World} (h : Kept X a b) : Kept X a b.drew := ⟨h.os, h.tape, h.output, h.size, h.block⟩
theorem Kept.alloc {X : Nat → Prop} {a b : World} (h : Kept X a b) (o : Obj) : Kept X a (b.alloc o) :=
  h.trans ⟨rfl, rfl, rfl, by simp, fun k hk _ => Below.heap_alloc _ _ _ hk⟩
theorem Kept.cell {X : Nat → Prop} {w w' : World} (h : Kept X w w') {p : Addr} {v : Value} (hc : w.cell? p = some v) (hp : ¬ X p.block) : w'.cell? p = some v := by
  rw [World.cell?_of_block (w := w) (h.block p.block (World.block_lt_of_cell? w p hc) hp)]; exact hc
theorem Kept.frozen {X : Nat → Prop} {w w' : World} (h : Kept X w w') {p : Addr} (hk : p.block < w.heap.size) (hp : ¬ X p.block) : w'.frozen? p = w.frozen? p :=
  World.frozen?_of_block (w := w) (h.block p.block hk hp)

theorem frozen_at {w w' : World} {b : Nat} (h : w'.heap[b]? = w.heap[b]?) (o : Nat) : w'.frozen? ⟨b, o, none⟩ = w.frozen? ⟨b, o, none⟩ := World.frozen?_of_block (w := w) h
theorem cell_at {w w' : World} {b : Nat} (h : w'.heap[b]? = w.heap[b]?) (o : Nat) : w'.cell? ⟨b, o, none⟩ = w.cell? ⟨b, o, none⟩ := World.cell?_of_block (w := w) h

/-- A store elsewhere leaves the pool as it is. -/
theorem Pool.setOther {w : World} {base s : Nat} {hdr : Value} {n : Nat} {ns : Nat → Nd} (h : Pool w base s hdr n ns) (a : Addr) (v : Value) (h1 : hdr.ownBlock ≠ some a.block) (h2 : a ≠ ⟨s, 0, none⟩) :
    Pool (w.setCell a v) base s hdr n ns := by
  refine ⟨h.own.kept ⟨rfl, rfl, rfl, by simp, fun k _ hk => Below.heap_setCell _ _ _ _ (fun e => hk (by rw [e]))⟩ (.inr h1), ?_, h.ne⟩
  rw [World.cell?_setCell_other _ _ _ _ h2]; exact h.hd

theorem T.single {n : Nat} {ns : Nat → Nd} {f : Nat} {t : Int} {v : Nat} (h : T n ns f t [v]) : t = (v : Int) := by
  cases f with
  | zero => have := h.2; simp at this
  | succ f =>
    rcases h with h | ⟨i, l1, l2, e, hi, hl, _⟩
    · have := h.2; simp at this
    · rw [e]
      cases l1 with
      | nil => simp at hl; rw [hl.1]
      | cons a l1 => simp at hl

theorem low_at {ns : Nat → Nd} {la lb : List Nat} {v : Nat} (h : Sorted ns (la ++ v :: lb)) : low ns (ns v).place (la ++ v :: lb) = la ∧ high ns (ns v).place (la ++ v :: lb) = v :: lb := by
  obtain ⟨e1, e2⟩ := low_node_ge (p := (ns v).place) h (by omega)
  obtain ⟨_, _, o1, _⟩ := sorted_split h
  rw [e1, e2]
  constructor
  · exact List.filter_eq_self.2 fun j hj => by have := o1 j hj; simpa using this
  · have : high ns (ns v).place la = [] := List.filter_eq_nil_iff.2 fun j hj => by have := o1 j hj; simpa using this
    rw [this]; rfl

theorem low_next {ns : Nat → Nd} {lb : List Nat} {v : Nat} (h : Sorted ns (v :: lb)) : low ns ((ns v).place + 1) (v :: lb) = [v] ∧ high ns ((ns v).place + 1) (v :: lb) = lb := by
  obtain ⟨e1, e2⟩ := low_node_lt (l1 := []) (p := (ns v).place + 1) h (by omega)
  obtain ⟨_, _, _, o2⟩ := sorted_split (l1 := []) h
  rw [List.nil_append] at e1 e2
  rw [e1, e2]
  have q1 : low ns ((ns v).place + 1) lb = [] := List.filter_eq_nil_iff.2 fun j hj => by have := o2 j hj; simp; omega
  have q2 : high ns ((ns v).place + 1) lb = lb := List.filter_eq_self.2 fun j hj => by have := o2 j hj; simp; omega
  rw [q1, q2]; exact ⟨rfl, rfl⟩

theorem sorted_chg {ns ns' : Nat → Nd} {l : List Nat} (h : ∀ j, (ns' j).place = (ns j).place) (hS : Sorted ns l) : Sorted ns' l := by
  unfold Sorted at *
  exact hS.imp fun {a b} e => by rw [h a, h b]; exact e

theorem low_chg {ns ns' : Nat → Nd} (h : ∀ j, (ns' j).place = (ns j).place) (p : Int) (l : List Nat) : low ns' p l = low ns p l ∧ high ns' p l = high ns p l := by
  constructor <;> exact List.filter_congr fun j _ => by rw [h j]

set_option maxRecDepth 100000 in
set_option maxHeartbeats 4000000 in
theorem remove_any {base s n rb k : Nat} {hdr : Value} {w : World} {ns : Nat → Nd} {f v : Nat} {t fr : Int} {la lb : List Nat} (hP : Pool w base s hdr n ns) (hG : G n ns) (hT : T n ns f t (la ++ v :: lb))
    (hN : (la ++ v :: lb).Nodup) (hS : Sorted ns (la ++ v :: lb)) (hp0 : 0 ≤ (ns v).place) (hp1 : (ns v).place ≤ 65535) (hrs : rb ≠ s) (hrB : hdr.ownBlock ≠ some rb)
    (cf : w.cell? ⟨s, 1, none⟩ = some (.int .i32 fr)) (cr : w.cell? ⟨rb, k, none⟩ = some (.int .i32 t)) (zs : ∀ o, w.frozen? ⟨s, o, none⟩ = false) (zr : ∀ o, w.frozen? ⟨rb, o, none⟩ = false) :
    Calls Yba.prog 14 #[.pointer (some ⟨s, 0, none⟩), .pointer (some ⟨rb, k, none⟩), .int .i64 (ns v).place] w fun e w' => e = .returned (.tuple #[]) ∧
      ∃ (ns' : Nat → Nd) (r : Int) (f' : Nat), Pool w' base s hdr n ns' ∧ G n ns' ∧ T n ns' f' r (la ++ lb) ∧ (ns' v).left = fr ∧ Chg (la ++ v :: lb) ns ns' ∧
        Kept (fun b => hdr.ownBlock = some b ∨ b = s ∨ b = rb) w w' ∧ w'.cell? ⟨s, 1, none⟩ = some (.int .i32 v) ∧ w'.cell? ⟨s, 2, none⟩ = w.cell? ⟨s, 2, none⟩ ∧
        (∀ o, o ≠ k → w'.cell? ⟨rb, o, none⟩ = w.cell? ⟨rb, o, none⟩) ∧ w'.cell? ⟨rb, k, none⟩ = some (.int .i32 r) ∧ (∀ o, w'.frozen? ⟨s, o, none⟩ = false) ∧ (∀ o, w'.frozen? ⟨rb, o, none⟩ = false) := by
  have hv : v < n := hT.lt v (by simp)
  obtain ⟨B, cap, rfl, hb, hBs, hc, hm⟩ := hP.form (by omega)
  have hBr : B ≠ rb := by intro e; exact hrB (by simp [Value.ownBlock, e])
  obtain ⟨e1, e2⟩ := low_at hS
  obtain ⟨m1, m2, n1, n2, n3⟩ := nodup_node hN
  go_enter Yba.func14, Yba.ntmps14
  go_wp2_with fail
  refine (split_any (ns v).place f w ns t _ hP hG hT hN hS).mono ?_
  rintro e w1 ⟨ns1, x, y, rfl, hP1, hg1, hG1, hC1, hx, hy⟩
  rw [e1] at hx
  rw [e2] at hy
  have S1 : Sorted ns1 (v :: lb) := sorted_chg hC1.place (List.Pairwise.sublist (by simp) hS)
  have N1 : (v :: lb).Nodup := List.nodup_cons.2 ⟨n2, m2⟩
  obtain ⟨e3, e4⟩ := low_next S1
  rw [hC1.place v] at e3 e4
  go_wp2_with fail
  refine (split_any ((ns v).place + 1) f w1 ns1 y _ hP1 hG1 hy N1 S1).mono ?_
  rintro e w2 ⟨ns2, x', y', rfl, hP2, hg2, hG2, hC2, hx', hy'⟩
  rw [e3] at hx'
  rw [e4] at hy'
  obtain rfl := hx'.single
  have hxf : T n ns2 f x la := hx.frame fun j hj => hC2.keep j (by intro e; rcases List.mem_cons.1 e with rfl | e; exact n1 hj; exact n3 j hj e)
  clear hx e1 e2 e3 e4 hy S1 N1
  have K2 : Kept (fun b => b = B ∨ b = s ∨ b = rb) w w2 := (Kept.grown hg1 (fun k e => .inl (by simpa [Value.ownBlock] using e.symm))).trans (Kept.grown hg2 (fun k e => .inl (by simpa [Value.ownBlock] using e.symm)))
  have h0 := hP2.hd
  have hns : some s ≠ Value.ownBlock (.slice (some ⟨B, 0, none⟩) n cap) := by simp [Value.ownBlock]; omega
  have hnr : some rb ≠ Value.ownBlock (.slice (some ⟨B, 0, none⟩) n cap) := by simp [Value.ownBlock]; omega
  have cf2 : w2.cell? ⟨s, 1, none⟩ = some (.int .i32 fr) := hg2.cell (hg1.cell cf hns) hns
  have cr2 : w2.cell? ⟨rb, k, none⟩ = some (.int .i32 t) := hg2.cell (hg1.cell cr hnr) hnr
  have bs1 : s < w.heap.size := World.block_lt_of_cell? w ⟨s, 1, none⟩ cf
  have br1 : rb < w.heap.size := World.block_lt_of_cell? w ⟨rb, k, none⟩ cr
  have Gs : ∀ k : Nat, k < w.heap.size → k ≠ B → w2.heap[k]? = w.heap[k]? := fun k hk hn =>
    (hg2.block k (Nat.lt_of_lt_of_le hk hg1.size) (by simpa [Value.ownBlock] using hn)).trans (hg1.block k hk (by simpa [Value.ownBlock] using hn))
  have zs2 : ∀ o, w2.frozen? ⟨s, o, none⟩ = false := fun o => by rw [frozen_at (Gs s bs1 (by omega))]; exact zs o
  have zr2 : ∀ o, w2.frozen? ⟨rb, o, none⟩ = false := fun o => by rw [frozen_at (Gs rb br1 (by omega))]; exact zr o
  have os2 : w2.cell? ⟨s, 2, none⟩ = w.cell? ⟨s, 2, none⟩ := cell_at (Gs s bs1 (by omega)) 2
  have or2 : ∀ o, w2.cell? ⟨rb, o, none⟩ = w.cell? ⟨rb, o, none⟩ := cell_at (Gs rb br1 (by omega))
  have d5 : w2.cell? ⟨B, v * 10 + 5, none⟩ = some (.int .i32 (ns2 v).left) := hP2.cell hv (k := 5) (by omega)
  have f2 := hP2.frozen
  have g1 : (0 : Int) ≤ (v : Int) := by omega
  have g2 : (v : Int) < (n : Int) := by omega
  have Hos := hide os2
  have Hor := hide or2
  have HGs := hide Gs
  have HK := hide K2
  clear os2 or2 Gs cf cr zs zr K2
  go_wp2_with fail
  go_region
  go_wp2_with fail
  obtain ⟨hP3, _⟩ := hP2.store hv (k := 5) (by omega) (.int .i32 fr) { ns2 v with left := fr } rfl
  obtain ⟨ns3, e3⟩ : ∃ q, q = upd ns2 v { ns2 v with left := fr } := ⟨_, rfl⟩
  rw [← e3] at hP3
  have E3 := hide e3
  clear e3
  have G3 : G n ns3 := by rw [E3.out]; exact hG2.upd (hG2 v hv).1 (hG2 v hv).2
  have hP4 := (hP3.setOther ⟨s, 1, none⟩ (.int .i32 v) (by simp [Value.ownBlock]; exact hBs) (by simp)).drew
  have o3 : ∀ j, j ≠ v → ns3 j = ns2 j := fun j hj => by rw [E3.out, upd_other _ _ hj]
  have O3 := hide o3
  clear o3
  refine (merge_any _ f f (Nat.le_refl _) _ ns3 x y' la lb hP4 G3 (hxf.frame fun j hj => O3.out j (fun e => n1 (e ▸ hj))) (hy'.frame fun j hj => O3.out j (fun e => n2 (e ▸ hj))) (by
    rw [List.nodup_append]; exact ⟨m1, m2, fun a ha b hb e => n3 a ha (e ▸ hb)⟩)).mono ?_
  rintro e w5 ⟨ns5, r, rfl, hP5, hg5, hG5, hC5, hr⟩
  obtain ⟨w4, e4⟩ : ∃ q : World, q = ((w2.setCell ⟨B, v * 10 + 5, none⟩ (.int .i32 fr)).setCell ⟨s, 1, none⟩ (.int .i32 (v : Int))).drew := ⟨_, rfl⟩
  rw [← e4] at hg5
  have x1 : w4.cell? ⟨s, 1, none⟩ = some (.int .i32 v) := by
    rw [e4, World.cell?_drew]
    refine World.cell?_setCell_same _ _ _ (u := .int .i32 fr) ?_
    rw [World.cell?_setCell_other _ _ _ _ (by simp <;> omega)]; exact cf2
  have x2 : w4.cell? ⟨s, 2, none⟩ = w.cell? ⟨s, 2, none⟩ := by
    rw [e4, World.cell?_drew, World.cell?_setCell_other _ _ _ _ (by simp), World.cell?_setCell_other _ _ _ _ (by simp <;> omega)]; exact Hos.out
  have x3 : ∀ o, w4.cell? ⟨rb, o, none⟩ = w.cell? ⟨rb, o, none⟩ := fun o => by
    rw [e4, World.cell?_drew, World.cell?_setCell_other _ _ _ _ (by simp <;> omega), World.cell?_setCell_other _ _ _ _ (by simp <;> omega)]; exact Hor.out o
  have x4 : ∀ o, w4.frozen? ⟨s, o, none⟩ = false := fun o => by rw [e4, World.frozen?_drew, World.frozen?_setCell, World.frozen?_setCell]; exact zs2 o
  have x5 : ∀ o, w4.frozen? ⟨rb, o, none⟩ = false := fun o => by rw [e4, World.frozen?_drew, World.frozen?_setCell, World.frozen?_setCell]; exact zr2 o
  have z4 : w4.heap.size = w2.heap.size := by rw [e4]; simp
  have K4 : Kept (fun b => b = B ∨ b = s ∨ b = rb) w w4 := by
    rw [e4]
    exact ((HK.out.trans (Kept.setCell w2 _ _ (.inl rfl))).trans (Kept.setCell _ _ _ (.inr (.inl rfl)))).drew
  have hz2 : w.heap.size ≤ w2.heap.size := HK.out.size
  have Gs : ∀ b : Nat, b < w.heap.size → b ≠ B → w5.heap[b]? = w4.heap[b]? := fun b hk hn => hg5.block b (by omega) (by simpa [Value.ownBlock] using hn)
  have y1 : w5.cell? ⟨s, 1, none⟩ = some (.int .i32 v) := (cell_at (Gs s bs1 (by omega)) 1).trans x1
  have y2 : w5.cell? ⟨s, 2, none⟩ = w.cell? ⟨s, 2, none⟩ := (cell_at (Gs s bs1 (by omega)) 2).trans x2
  have y3 : ∀ o, w5.cell? ⟨rb, o, none⟩ = w.cell? ⟨rb, o, none⟩ := fun o => (cell_at (Gs rb br1 (by omega)) o).trans (x3 o)
  have y4 : ∀ o, w5.frozen? ⟨s, o, none⟩ = false := fun o => (frozen_at (Gs s bs1 (by omega)) o).trans (x4 o)
  have y5 : ∀ o, w5.frozen? ⟨rb, o, none⟩ = false := fun o => (frozen_at (Gs rb br1 (by omega)) o).trans (x5 o)
  have y6 : w5.cell? ⟨rb, k, none⟩ = some (.int .i32 t) := (y3 k).trans ((Hor.out k).symm.trans cr2)
  have Y1 := hide y1
  have Y2 := hide y2
  have Y3 := hide y3
  clear e4 x1 x2 x3 x4 x5 z4 hz2 Gs y1 y2 y3 h0 cf2 cr2 zs2 zr2 d5 f2 Hos Hor HGs
  go_wp2
  go_end0
  have lv : (ns3 v).left = fr := by rw [E3.out, upd_same]
  refine ⟨rfl, ns5, r, f + f, hP5.setOther _ _ (by simp [Value.ownBlock]; exact hBr) (by simp <;> omega), hG5, hr, ?_, ?_, ?_, ?_, ?_, ?_, ?_, ?_, ?_⟩
  · rw [hC5.keep v (by simp only [List.mem_append]; intro h; rcases h with h | h; exact n1 h; exact n2 h)]; exact lv
  · have c1 : Chg (la ++ v :: lb) ns ns2 := hC1.trans (hC2.mono fun j hj => by simp only [List.mem_append]; exact .inr hj)
    have c2 : Chg (la ++ v :: lb) ns ns3 := by rw [E3.out]; exact c1.upd (by simp) rfl rfl
    exact c2.trans (hC5.mono fun j hj => by simp only [List.mem_append, List.mem_cons] at hj ⊢; rcases hj with h | h; exact .inl h; exact .inr (.inr h))
  · have K5 : Kept (fun b => b = B ∨ b = s ∨ b = rb) w (w5.setCell ⟨rb, k, none⟩ (.int .i32 r)) :=
      (K4.trans (Kept.grown hg5 (fun k e => .inl (by simpa [Value.ownBlock] using e.symm)))).trans (Kept.setCell _ _ _ (.inr (.inr rfl)))
    exact K5.mono fun b h => by rcases h with rfl | h; exact .inl rfl; exact .inr h
  · rw [World.cell?_setCell_other _ _ _ _ (by simp <;> omega)]; exact Y1.out
  · rw [World.cell?_setCell_other _ _ _ _ (by simp <;> omega)]; exact Y2.out
  · intro o ho; rw [World.cell?_setCell_other _ _ _ _ (by simp <;> omega)]; exact Y3.out o
  · exact World.cell?_setCell_same _ _ _ y6
  · intro o; rw [World.frozen?_setCell]; exact y4 o
  · intro o; rw [World.frozen?_setCell]; exact y5 o
end Go.Proofs.Ybulkfhsm.B
