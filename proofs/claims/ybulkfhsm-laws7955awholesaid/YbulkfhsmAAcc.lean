/-
  The accesses as they grow: their memory, and what the links say.
-/
import Derived.Test.YbulkfhsmANodes
import Derived.Test.YbulkfhsmASel
namespace Go.Proofs.Ybulkfhsm.A
open Go.RowKit

theorem Lies.drew {W : World} {d : Dat} {gh go gt gv : Nat} (h : Lies W d gh go gt gv) : Lies W.drew d gh go gt gv := ⟨h.ck, h.ct, h.co, h.ob, h.tx, h.tv⟩

theorem own_far {W : World} {lo e k n g : Nat} {v : Value} {xs : List Value} (h : W.ownsRow lo e k v n xs) (hg : g < lo) (o : Nat) (u : Value) : (W.setCell ⟨g, o, none⟩ u).ownsRow lo e k v n xs :=
  h.kept (grown_set W ⟨g, o, none⟩ u) (.inr fun e' => by have := (h.lt g e').1; omega)

theorem row_form {W : World} {lo e sz : Nat} {v : Value} {n : Nat} {xs : List Value} (h : W.ownsRow lo e sz v n xs) (hn : 0 < n) : ∃ g cap, v = .slice (some ⟨g, 0, none⟩) n cap ∧ lo ≤ g := by
  rcases h.2 with ⟨rfl, rfl⟩ | ⟨g, cap, cur, rfl, hl, _⟩
  · omega
  · exact ⟨g, cap, rfl, hl⟩

/-- Two rows of different element types lie apart. -/
theorem own_apart {W : World} {lo lo' e e' k k' n n' : Nat} {v v' : Value} {xs xs' : List Value} (h : W.ownsRow lo e k v n xs) (h' : W.ownsRow lo' e' k' v' n' xs') (ht : e ≠ e') : v.ownBlock = none ∨ v.ownBlock ≠ v'.ownBlock := by
  rcases h.2 with ⟨rfl, _⟩ | ⟨g, cap, cur, rfl, _, hh, _⟩
  · exact .inl rfl
  · right
    intro e1
    rcases h'.2 with ⟨rfl, _⟩ | ⟨g', cap', cur', rfl, _, hh', _⟩
    · simp [Value.ownBlock] at e1
    · simp only [Value.ownBlock, Option.some.injEq] at e1
      subst e1
      rw [hh] at hh'
      simp at hh'
      exact ht hh'.2

structure Ac (w1 : World) (d : Dat) (sa gf gl B N0 : Nat) (o : List Value) (mo mn : Nat) (v oh nh : Value) (nx fs ls : Nat → Int) (W : World) : Prop where
  acc : Blk W sa 43 [v, oh, nh, .slice (some ⟨gf, 0, none⟩) d.objects d.objects]
  fst : Blk W gf 21 (rowF (fun x => .int .i32 (fs x)) d.objects)
  lst : Blk W gl 21 (rowF (fun x => .int .i32 (ls x)) d.objects)
  ops : W.ownsRow B 45 4 oh mo (flatK d.acc mo)
  nxt : W.ownsRow B 21 1 nh mn (rowF (fun j => .int .i32 (nx j)) mn)
  var : Blk W N0 32 o
  bel : Below sa w1 W
  h1 : sa < gf
  h2 : gf < gl
  h3 : gl < B
  h4 : B ≤ N0

section
variable {w1 W : World} {d : Dat} {sa gf gl B N0 mo mn : Nat} {o : List Value} {v oh nh : Value} {nx fs ls : Nat → Int}

theorem Ac.drewN (h : Ac w1 d sa gf gl B N0 o mo mn v oh nh nx fs ls W) (k : Nat) : Ac w1 d sa gf gl B N0 o mo mn v oh nh nx fs ls (W.drewN k) :=
  ⟨h.acc, h.fst, h.lst, h.ops, h.nxt, h.var, ⟨h.bel.os, h.bel.tape, h.bel.output, h.bel.size, h.bel.block⟩, h.h1, h.h2, h.h3, h.h4⟩

/-- A new variable of the loop. -/
theorem Ac.newVar (h : Ac w1 d sa gf gl B N0 o mo mn v oh nh nx fs ls W) (o' : List Value) : Ac w1 d sa gf gl B W.heap.size o' mo mn v oh nh nx fs ls (W.alloc (.cells o'.toArray 32)) := by
  have hl := h.var.lt
  have h4 := h.h4
  have h3 := h.h3
  have h2 := h.h2
  have h1 := h.h1
  exact ⟨h.acc.alloc _, h.fst.alloc _, h.lst.alloc _, h.ops.alloc _, h.nxt.alloc _, Blk.new W 32 o', h.bel.alloc (by omega) _, h1, h2, h3, by omega⟩

theorem Ac.setFst (h : Ac w1 d sa gf gl B N0 o mo mn v oh nh nx fs ls W) (x : Nat) (u : Int) : Ac w1 d sa gf gl B N0 o mo mn v oh nh nx (putI fs x u) ls (W.setCell ⟨gf, x, none⟩ (.int .i32 u)) := by
  have h4 := h.h4
  have h3 := h.h3
  have h2 := h.h2
  have h1 := h.h1
  exact ⟨h.acc.other (by simp; omega) _, by rw [← putV_int]; exact h.fst.put _ _, h.lst.other (by simp; omega) _, own_far h.ops (by omega) _ _, own_far h.nxt (by omega) _ _, h.var.other (by simp; omega) _, h.bel.setCell (by simp; omega) _, h1, h2, h3, h4⟩

theorem Ac.setLst (h : Ac w1 d sa gf gl B N0 o mo mn v oh nh nx fs ls W) (x : Nat) (u : Int) : Ac w1 d sa gf gl B N0 o mo mn v oh nh nx fs (putI ls x u) (W.setCell ⟨gl, x, none⟩ (.int .i32 u)) := by
  have h4 := h.h4
  have h3 := h.h3
  have h2 := h.h2
  have h1 := h.h1
  exact ⟨h.acc.other (by simp; omega) _, h.fst.other (by simp; omega) _, by rw [← putV_int]; exact h.lst.put _ _, own_far h.ops (by omega) _ _, own_far h.nxt (by omega) _ _, h.var.other (by simp; omega) _, h.bel.setCell (by simp; omega) _, h1, h2, h3, h4⟩

theorem Ac.setNxt {g cap : Nat} (h : Ac w1 d sa gf gl B N0 o mo mn v oh (.slice (some ⟨g, 0, none⟩) mn cap) nx fs ls W) (j : Nat) (u : Int) :
    Ac w1 d sa gf gl B N0 o mo mn v oh (.slice (some ⟨g, 0, none⟩) mn cap) (putI nx j u) fs ls (W.setCell ⟨g, j, none⟩ (.int .i32 u)) := by
  have h4 := h.h4
  have h3 := h.h3
  have h2 := h.h2
  have h1 := h.h1
  have hg := (h.nxt.lt g rfl).1
  obtain ⟨r1, r2⟩ := World.ownsRow.stored h.nxt j (.int .i32 u)
  rw [rowF_set] at r1
  have hv : N0 ≠ g := fun e => own_ne h.nxt h.var (by decide) (by rw [e]; rfl)
  exact ⟨h.acc.other (by simp; omega) _, h.fst.other (by simp; omega) _, h.lst.other (by simp; omega) _, h.ops.kept r2 (own_apart h.ops h.nxt (by decide)), by rw [← putV_int]; exact r1, h.var.other (by simpa using hv) _, h.bel.setCell (by simp; omega) _, h1, h2, h3, h4⟩

/-- Behind the append to ops and the store of its header; a temporary block came first. -/
theorem Ac.appOps {W2 W3 : World} {oh' : Value} (h : Ac w1 d sa gf gl B N0 o mo mn v oh nh nx fs ls W) (ht : W.grownBy W2 none) (hg : W2.grownBy W3 oh.ownBlock) (hown : W3.ownsRow B 45 4 oh' (mo + 1) (flatK d.acc (mo + 1))) :
    Ac w1 d sa gf gl B N0 o (mo + 1) mn v oh' nh nx fs ls (W3.setCell ⟨sa, 1, none⟩ oh') := by
  have h4 := h.h4
  have h3 := h.h3
  have h2 := h.h2
  have h1 := h.h1
  have hlv := h.var.lt
  have hs2 := ht.size
  have far : ∀ k, k < B → some k ≠ oh.ownBlock := fun k hk e => by have := (h.ops.lt k e.symm).1; omega
  have bk : ∀ {g ty l}, Blk W g ty l → some g ≠ oh.ownBlock → Blk W3 g ty l := fun hb hne => (hb.kept ht (by simp)).kept hg hne
  have a1 : Blk (W3.setCell ⟨sa, 1, none⟩ oh') sa 43 [v, oh', nh, .slice (some ⟨gf, 0, none⟩) d.objects d.objects] := (bk h.acc (far sa (by omega))).store 1 oh'
  refine ⟨a1, (bk h.fst (far gf (by omega))).other (by simp; omega) _, (bk h.lst (far gl (by omega))).other (by simp; omega) _, own_far hown (by omega) _ _, ?_, (bk h.var (own_ne h.ops h.var (by decide))).other (by simp; omega) _, ?_, h1, h2, h3, h4⟩
  · refine own_far ((h.nxt.kept ht (by cases nh.ownBlock <;> simp)).kept hg ?_) (by omega) _ _
    exact own_apart h.nxt h.ops (by decide)
  · refine Below.setCell (Below.grown (Below.grown h.bel ht (by omega) (by simp)) hg (by omega) (fun k e => ?_)) (by simp) _
    have := (h.ops.lt k e).1; omega

theorem Ac.appNxt {W2 W3 : World} {nh' : Value} {u : Int} (h : Ac w1 d sa gf gl B N0 o mo mn v oh nh nx fs ls W) (ht : W.grownBy W2 none) (hg : W2.grownBy W3 nh.ownBlock) (hown : W3.ownsRow B 21 1 nh' (mn + 1) (rowF (fun j => .int .i32 (nx j)) mn ++ [.int .i32 u])) :
    Ac w1 d sa gf gl B N0 o mo (mn + 1) v oh nh' (putI nx mn u) fs ls (W3.setCell ⟨sa, 2, none⟩ nh') := by
  have h4 := h.h4
  have h3 := h.h3
  have h2 := h.h2
  have h1 := h.h1
  have hlv := h.var.lt
  have hs2 := ht.size
  have far : ∀ k, k < B → some k ≠ nh.ownBlock := fun k hk e => by have := (h.nxt.lt k e.symm).1; omega
  have bk : ∀ {g ty l}, Blk W g ty l → some g ≠ nh.ownBlock → Blk W3 g ty l := fun hb hne => (hb.kept ht (by simp)).kept hg hne
  have a1 : Blk (W3.setCell ⟨sa, 2, none⟩ nh') sa 43 [v, oh, nh', .slice (some ⟨gf, 0, none⟩) d.objects d.objects] := (bk h.acc (far sa (by omega))).store 2 nh'
  refine ⟨a1, (bk h.fst (far gf (by omega))).other (by simp; omega) _, (bk h.lst (far gl (by omega))).other (by simp; omega) _, ?_, ?_, (bk h.var (own_ne h.nxt h.var (by decide))).other (by simp; omega) _, ?_, h1, h2, h3, h4⟩
  · refine own_far ((h.ops.kept ht (by cases oh.ownBlock <;> simp)).kept hg ?_) (by omega) _ _
    exact own_apart h.ops h.nxt (by decide)
  · rw [rowF_succ, rowF_congr (f' := fun j => .int .i32 (nx j)) (fun j hj => by simp only [putI]; rw [if_neg (by omega)])]
    simp only [putI]
    exact own_far hown (by omega) _ _
  · refine Below.setCell (Below.grown (Below.grown h.bel ht (by omega) (by simp)) hg (by omega) (fun k e => ?_)) (by simp) _
    have := (h.nxt.lt k e).1; omega
end

/-- The same between two rounds: there is no variable. -/
structure AcL (w1 : World) (d : Dat) (sa gf gl B mo mn : Nat) (v oh nh : Value) (nx fs ls : Nat → Int) (W : World) : Prop where
  acc : Blk W sa 43 [v, oh, nh, .slice (some ⟨gf, 0, none⟩) d.objects d.objects]
  fst : Blk W gf 21 (rowF (fun x => .int .i32 (fs x)) d.objects)
  lst : Blk W gl 21 (rowF (fun x => .int .i32 (ls x)) d.objects)
  ops : W.ownsRow B 45 4 oh mo (flatK d.acc mo)
  nxt : W.ownsRow B 21 1 nh mn (rowF (fun j => .int .i32 (nx j)) mn)
  bel : Below sa w1 W
  h1 : sa < gf
  h2 : gf < gl
  h3 : gl < B
  h4 : B ≤ W.heap.size

theorem Ac.toL {w1 W : World} {d : Dat} {sa gf gl B N0 mo mn : Nat} {o : List Value} {v oh nh : Value} {nx fs ls : Nat → Int} (h : Ac w1 d sa gf gl B N0 o mo mn v oh nh nx fs ls W) : AcL w1 d sa gf gl B mo mn v oh nh nx fs ls W :=
  ⟨h.acc, h.fst, h.lst, h.ops, h.nxt, h.bel, h.h1, h.h2, h.h3, by have := h.var.lt; have := h.h4; omega⟩

theorem AcL.newVar {w1 W : World} {d : Dat} {sa gf gl B mo mn : Nat} {v oh nh : Value} {nx fs ls : Nat → Int} (h : AcL w1 d sa gf gl B mo mn v oh nh nx fs ls W) (o : List Value) : Ac w1 d sa gf gl B W.heap.size o mo mn v oh nh nx fs ls (W.alloc (.cells o.toArray 32)) := by
  have h4 := h.h4
  have h3 := h.h3
  have h2 := h.h2
  have h1 := h.h1
  exact ⟨h.acc.alloc _, h.fst.alloc _, h.lst.alloc _, h.ops.alloc _, h.nxt.alloc _, Blk.new W 32 o, h.bel.alloc (by omega) _, h1, h2, h3, h4⟩

/-! ### the links -/
structure Links (d : Dat) (m : Nat) (nx fs ls : Nat → Int) : Prop where
  fst : ∀ x : Nat, x < d.objects → Fst d.obj m (x : Int) (fs x)
  lst : ∀ x : Nat, x < d.objects → Lst d.obj m (x : Int) (ls x)
  nxt : ∀ j, j < m → Nxt d.obj m j (nx j)

theorem links_start (d : Dat) (nx fs ls : Nat → Int) (hf : ∀ x, x < d.objects → fs x = -1) (hl : ∀ x, x < d.objects → ls x = -1) : Links d 0 nx fs ls :=
  ⟨fun x hx => .inl ⟨hf x hx, fun j hj => by omega⟩, fun x hx => .inl ⟨hl x hx, fun j hj => by omega⟩, fun j hj => by omega⟩

/-- The object's first access. -/
theorem links_first {d : Dat} {m x : Nat} {nx fs ls : Nat → Int} (h : Links d m nx fs ls) (hx : x < d.objects) (ho : d.obj m = (x : Int)) (hl : ls x < 0) :
    Links d (m + 1) (putI nx m (-1)) (putI fs x (m : Int)) (putI ls x (m : Int)) := by
  have hn := (h.lst x hx).none hl
  refine ⟨fun y hy => ?_, fun y hy => ?_, fun j hj => ?_⟩
  · unfold putI
    by_cases e : y = x
    · subst e; rw [if_pos rfl]; exact Fst.new hn ho
    · rw [if_neg e]; exact (h.fst y hy).far (by rw [ho]; omega)
  · unfold putI
    by_cases e : y = x
    · subst e; rw [if_pos rfl]; exact Lst.new ho
    · rw [if_neg e]; exact (h.lst y hy).far (by rw [ho]; omega)
  · unfold putI
    by_cases e : j = m
    · subst e; rw [if_pos rfl]; exact Nxt.new _ _
    · rw [if_neg e]
      exact (h.nxt j (by omega)).far (fun e' => hn j (by omega) (by rw [← e', ho]))

/-- .. a later one. -/
theorem links_later {d : Dat} {m x l : Nat} {nx fs ls : Nat → Int} (h : Links d m nx fs ls) (hx : x < d.objects) (ho : d.obj m = (x : Int)) (hlm : l < m) (hol : d.obj l = (x : Int)) (hlast : ∀ q, l < q → q < m → d.obj q ≠ (x : Int)) :
    Links d (m + 1) (putI (putI nx l (m : Int)) m (-1)) fs (putI ls x (m : Int)) := by
  refine ⟨fun y hy => ?_, fun y hy => ?_, fun j hj => ?_⟩
  · by_cases e : y = x
    · subst e
      refine (h.fst y hy).stay fun e' => ?_
      rcases h.fst y hy with ⟨_, h1⟩ | ⟨q, _, h1, _⟩
      · exact h1 l hlm hol
      · rw [e'] at h1; omega
    · exact (h.fst y hy).far (by rw [ho]; omega)
  · unfold putI
    by_cases e : y = x
    · subst e; rw [if_pos rfl]; exact Lst.new ho
    · rw [if_neg e]; exact (h.lst y hy).far (by rw [ho]; omega)
  · unfold putI
    by_cases e : j = m
    · subst e; rw [if_pos rfl]; exact Nxt.new _ _
    · rw [if_neg e]
      by_cases e2 : j = l
      · subst e2
        rw [if_pos rfl]
        exact Nxt.hit hlm (by rw [ho, hol]) (fun q h1 h2 => by rw [hol]; exact hlast q h1 h2)
      · rw [if_neg e2]
        by_cases e3 : d.obj j = (x : Int)
        · have hjl : j < l := by
            rcases Nat.lt_trichotomy j l with h1 | h1 | h1
            · exact h1
            · exact absurd h1 e2
            · exact absurd e3 (hlast j h1 (by omega))
          exact (h.nxt j (by omega)).stay hjl hlm (by rw [hol, e3])
        · exact (h.nxt j (by omega)).far (by rw [ho]; exact fun e' => e3 e'.symm)
end Go.Proofs.Ybulkfhsm.A
