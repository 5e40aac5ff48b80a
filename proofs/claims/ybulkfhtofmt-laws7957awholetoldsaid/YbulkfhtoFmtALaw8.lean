/-
  The walk of the law A: the node while it is built.
-/
import Derived.Test.YbulkfhtoFmtALawA
namespace Go.Proofs.YbulkfhtoFmt.A
open Go.RowKit Go.Extern.Stop Go.Stop Go.Extern
attribute [local go_sem ↓] Go.wp_at_zero Go.wp_at_succ

/-- The node while it is built: all but its vectors. -/
structure Mid (W : World) (D : Dat) (n co oo : Nat) (q0 : Qn) (vh : Value) : Prop where
  nd : Blk W n 34 [vh, (if D.ho then .pointer (some ⟨oo, 0, none⟩) else .pointer none), .bool D.rs, .int .i64 D.x, (if D.hc then .pointer (some ⟨co, 0, none⟩) else .pointer none)]
  con : D.hc = true → Blk W co 35 (bc D.ck ++ (bc D.ik ++ [.int .i64 D.kk]))
  out : D.ho = true → Blk W oo 39 (q0.chal D.ok) ∧ Cp D.z0 q0 ∧ q0.Ok ∧ Xs W q0.pa q0.t q0.pc ∧ ∀ x, q0.pa = some x → x.block < W.heap.size
theorem Mid.kept {W W' : World} {D : Dat} {n co oo vb : Nat} {q0 : Qn} {vh : Value} (h : Mid W D n co oo q0 vh) (hg : W.grownBy W' (some vb)) (h1 : n < vb) (h2 : D.hc = true → co < vb) (h3 : D.ho = true → oo < vb ∧ ∀ x, q0.pa = some x → x.block < vb) : Mid W' D n co oo q0 vh :=
  ⟨h.nd.kept hg (by simp; omega), fun e => (h.con e).kept hg (by have := h2 e; simp; omega), fun e => by
    obtain ⟨a, b, c, d, f⟩ := h.out e
    obtain ⟨k1, k2⟩ := h3 e
    exact ⟨a.kept hg (by simp; omega), b, c, d.kept hg (fun x ex => by have := k2 x ex; simp; omega), fun x ex => Nat.lt_of_lt_of_le (f x ex) hg.size⟩⟩
theorem Mid.below {W W' : World} {D : Dat} {n co oo : Nat} {q0 : Qn} {vh : Value} (h : Mid W D n co oo q0 vh) (hb : Below W.heap.size W W') : Mid W' D n co oo q0 vh :=
  ⟨h.nd.below hb h.nd.lt, fun e => (h.con e).below hb (h.con e).lt, fun e => by
    obtain ⟨a, b, c, d, f⟩ := h.out e
    exact ⟨a.below hb a.lt, b, c, d.below hb, fun x ex => Nat.lt_of_lt_of_le (f x ex) hb.size⟩⟩

/-- .. and what lies beside it. -/
structure Pre (w W : World) (D : Dat) (n co oo : Nat) (q0 : Qn) (vh : Value) (c11 c13 : Nat) : Prop where
  mid : Mid W D n co oo q0 vh
  b11 : Blk W c11 24 (bc D.ck ++ (bc D.ik ++ [.int .i64 D.kk]))
  b13 : Blk W c13 27 D.z0.cells
  g0 : Good w D
  bel : Below w.heap.size w W
  hn : w.heap.size ≤ n
  far : D.ho = true → ∀ x, q0.pa = some x → x.block ≠ n
theorem Pre.good {w W : World} {D : Dat} {n co oo : Nat} {q0 : Qn} {vh : Value} {c11 c13 : Nat} (h : Pre w W D n co oo q0 vh c11 c13) : Good W D := h.g0.below h.bel
theorem Pre.below {w W W' : World} {D : Dat} {n co oo : Nat} {q0 : Qn} {vh : Value} {c11 c13 : Nat} (h : Pre w W D n co oo q0 vh c11 c13) (hb : Below W.heap.size W W') : Pre w W' D n co oo q0 vh c11 c13 :=
  ⟨h.mid.below hb, h.b11.below hb h.b11.lt, h.b13.below hb h.b13.lt, h.g0, h.bel.trans (hb.mono h.bel.size), h.hn, h.far⟩

/-- The vectors while they are copied: j of them are. V: how much lay there before their row. -/
structure Loop (w W : World) (D : Dat) (n co oo : Nat) (q0 : Qn) (c11 c13 vb : Nat) (j : Nat) (qs : Nat → Qn) : Prop extends Pre w W D n co oo q0 (.slice (some ⟨vb, 0, none⟩) D.m D.m) c11 c13 where
  le : j ≤ D.m
  room : ∀ o i, o + i < D.m * 65 → (W.cell? ⟨vb, o + i, none⟩).isSome = true ∧ W.frozen? ⟨vb, o + i, none⟩ = false
  vec : ∀ i, i < j → W.rangeAt vb (i * 65) (qs i).cells ∧ (qs i).Ok ∧ Xs W (qs i).pa (qs i).t (qs i).pc ∧ (∀ x, (qs i).pa = some x → x.block ≠ vb ∧ x.block < W.heap.size) ∧ Cp (D.zs i) (qs i)
  vlt : n < vb ∧ (D.hc = true → co < vb) ∧ (D.ho = true → oo < vb ∧ ∀ x, q0.pa = some x → x.block < vb) ∧ c11 < vb ∧ c13 < vb ∧ w.heap.size ≤ vb

theorem cp_ok {z : Qn} {pa : Option Addr} {pc : Nat} (h : z.Ok) (hn : pa = none ↔ z.pa = none) : ({ z with pa := pa, pc := pc } : Qn).Ok := ⟨h.hr, h.hc, h.hi, h.ha, fun e => h.nil (hn.1 e), h.len⟩
theorem Xs.keptX {W W' : World} {pa : Option Addr} {t : List UInt8} {pc : Nat} {row : Option Nat} (h : Xs W pa t pc) (hg : W.grownBy W' row) (hne : ∀ x, pa = some x → 0 < t.length → some x.block ≠ row) : Xs W' pa t pc :=
  ⟨h.nil, fun x e j u hu => hg.cell (h.cell x e j u hu) (by rw [add_block]; exact hne x e (by have := (List.getElem?_eq_some_iff.1 hu).1; rw [bc_length] at this; omega))⟩
theorem range_kept {W W' : World} {b o : Nat} {l : List Value} {row : Option Nat} (h : W.rangeAt b o l) (hg : W.grownBy W' row) (hne : some b ≠ row) : W'.rangeAt b o l := fun j v hv => hg.cell (h j v hv) hne

section
variable {w W W' : World} {D : Dat} {n co oo : Nat} {q0 : Qn} {c11 c13 vb j : Nat} {qs : Nat → Qn}
theorem Loop.below (h : Loop w W D n co oo q0 c11 c13 vb j qs) (hb : Below W.heap.size W W') : Loop w W' D n co oo q0 c11 c13 vb j qs := by
  refine ⟨h.toPre.below hb, h.le, fun o i hi => ?_, fun i hi => ?_, h.vlt⟩
  · obtain ⟨a, b⟩ := h.room o i hi
    obtain ⟨v, hv⟩ := Option.isSome_iff_exists.1 a
    have hlt := World.block_lt_of_cell? _ _ hv
    exact ⟨by rw [hb.cell (p := ⟨vb, o + i, none⟩) hlt]; exact a, by rw [hb.frozen (p := ⟨vb, o + i, none⟩) hlt]; exact b⟩
  · obtain ⟨a, b, c, d, e⟩ := h.vec i hi
    exact ⟨range_below a hb, b, c.below hb, fun x ex => ⟨(d x ex).1, Nat.lt_of_lt_of_le (d x ex).2 hb.size⟩, e⟩
theorem Loop.put (h : Loop w W D n co oo q0 c11 c13 vb j qs) (hj : j < D.m) {q : Qn} (hq : q.Ok) (hc : Cp (D.zs j) q) (hx : Xs W q.pa q.t q.pc) (hlt : ∀ x, q.pa = some x → x.block ≠ vb ∧ x.block < W.heap.size) :
    Loop w (W.setCells vb (j * 65) q.cells) D n co oo q0 c11 c13 vb (j + 1) (fun i => if i = j then q else qs i) := by
  have hg := grown_sets vb q.cells (j * 65) W
  obtain ⟨v1, v2, v3, v4, v5, v6⟩ := h.vlt
  have hth : W.there vb (j * 65) q.cells.length := fun i hi => by rw [hq.size] at hi; exact h.room (j * 65) i (by omega)
  refine ⟨⟨h.mid.kept hg v1 v2 v3, h.b11.kept hg (by simp; omega), h.b13.kept hg (by simp; omega), h.g0, below_sets v6 _ _ h.bel, h.hn, h.far⟩, by omega, fun o i hi => ?_, fun i hi => ?_, h.vlt⟩
  · obtain ⟨a, b⟩ := h.room o i hi
    exact ⟨World.isSome_setCells vb q.cells (j * 65) W _ a, by rw [World.frozen?_setCells]; exact b⟩
  · by_cases e : i = j
    · subst e
      rw [if_pos rfl]
      exact ⟨World.rangeAt_setCells_same _ _ _ _ hth, hq, hx.kept hg (fun x ex => by have := (hlt x ex).1; simpa using this), fun x ex => ⟨(hlt x ex).1, Nat.lt_of_lt_of_le (hlt x ex).2 hg.size⟩, hc⟩
    · rw [if_neg e]
      obtain ⟨a, b, c, d, f⟩ := h.vec i (by omega)
      refine ⟨World.rangeAt_setCells_apart a vb (j * 65) q.cells (.inr (.inl ?_)), b, c.kept hg (fun x ex => by have := (d x ex).1; simpa using this), fun x ex => ⟨(d x ex).1, Nat.lt_of_lt_of_le (d x ex).2 hg.size⟩, f⟩
      rw [b.size]
      omega
theorem Blk.ne {g g' ty ty' : Nat} {l l' : List Value} (h : Blk W g ty l) (h' : Blk W g' ty' l') (ht : ty ≠ ty') : g ≠ g' := fun e => by
  subst e
  unfold Blk at h h'
  rw [h] at h'
  simp at h'
  exact ht h'.2
theorem Pre.start {qs : Nat → Qn} (h : Pre w W D n co oo q0 (.slice none 0 0) c11 c13) (cs : Array Value) (hs : cs.size = D.m * 65) :
    Loop w ((W.alloc (.cells cs 36)).setCell ⟨n, 0, none⟩ (.slice (some ⟨W.heap.size, 0, none⟩) D.m D.m)) D n co oo q0 c11 c13 W.heap.size 0 qs := by
  have hb0 : Below W.heap.size W (W.alloc (.cells cs 36)) := (Below.refl _ W).alloc (Nat.le_refl _) _
  have h1 := h.below hb0
  have hv : Blk (W.alloc (.cells cs 36)) W.heap.size 36 cs.toList := heap_alloc_new W (.cells cs 36)
  have hnl := h.mid.nd.lt
  have hg := grown_set (W.alloc (.cells cs 36)) ⟨n, 0, none⟩ (.slice (some ⟨W.heap.size, 0, none⟩) D.m D.m)
  have hv2 := hv.other (a := ⟨n, 0, none⟩) (by show W.heap.size ≠ n; omega) (.slice (some ⟨W.heap.size, 0, none⟩) D.m D.m)
  refine ⟨⟨⟨h1.mid.nd.store 0 _, fun e => (h1.mid.con e).other ((h1.mid.con e).ne h1.mid.nd (by decide)) _, fun e => ?_⟩, h1.b11.other (h1.b11.ne h1.mid.nd (by decide)) _, h1.b13.other (h1.b13.ne h1.mid.nd (by decide)) _, h.g0, h1.bel.setCell h.hn _, h.hn, h.far⟩, by omega, fun o i hi => ?_, fun i hi => by omega, hnl, fun e => (h.mid.con e).lt, fun e => ?_, h.b11.lt, h.b13.lt, h.bel.size⟩
  · obtain ⟨a, b, c, d, f⟩ := h1.mid.out e
    exact ⟨a.other (a.ne h1.mid.nd (by decide)) _, b, c, d.kept hg (fun x ex => by have := h.far e x ex; simpa using this), fun x ex => Nat.lt_of_lt_of_le (f x ex) hg.size⟩
  · have hlt : o + i < cs.toList.length := by rw [Array.length_toList, hs]; exact hi
    exact ⟨by rw [hv2.cell (List.getElem?_eq_getElem hlt)]; rfl, hv2.frozen _⟩
  · obtain ⟨a, _, _, _, f⟩ := h.mid.out e
    exact ⟨a.lt, f⟩
end
end Go.Proofs.YbulkfhtoFmt.A
