/-
  The law's arguments opened: a slice of drawn operations, a slice of numbers.
-/
import Derived.Test.YbulkfhsmALaw
import Derived.ProofKit
import Derived.OpenShut
import Derived.Deep.Slices
namespace Go.Proofs.Ybulkfhsm.A
open Go.ChangeShapes Go.WideShapes Go.ChangeAt Go.RowKit

theorem cells29 : Yba.prog.cellsOf 29 = 3 := by kernel_rfl
theorem cells5 : Yba.prog.cellsOf 5 = 1 := by kernel_rfl
theorem cells21 : Yba.prog.cellsOf 21 = 1 := by kernel_rfl

/-- What the i-th operation's cells hold. -/
def DrawnAt (w : World) (b off : Nat) (o : Int × Int × Int) : Prop :=
  w.cell? ⟨b, off, none⟩ = some (.int .u8 o.1) ∧ w.cell? ⟨b, off + 1, none⟩ = some (.int .u8 o.2.1) ∧ w.cell? ⟨b, off + 2, none⟩ = some (.int .u8 o.2.2) ∧ (0 ≤ o.1 ∧ o.1 ≤ 255) ∧ (0 ≤ o.2.1 ∧ o.2.1 ≤ 255) ∧ (0 ≤ o.2.2 ∧ o.2.2 ≤ 255)

set_option maxRecDepth 100000 in
theorem drawn_at {H : Type} {enc : TypeId × Value → H} {W : World} {base : Nat} {spare : Nat → Bool} {held : Bool} {n : Nat} {a : Addr} {cs : List Value} {x : DataW H × List MemPlace}
    (hc : W.cells? base a (Yba.prog.cellsOf 29) = some cs) (h : DataW.trod enc Yba.prog W base spare held n 29 cs = some x) : ∃ b off s, a = ⟨b, off, none⟩ ∧ DrawnAt W b off s := by
  obtain ⟨_, hl, hcell⟩ := World.cells?_some hc
  obtain ⟨xs, m, rfl, _, _, hxl, hf⟩ := DataW.trod_struct Yba.underlying29 h
  rw [cells29] at hl hcell
  match cs, hl with
  | [v0, v1, v2], _ =>
    obtain ⟨b, off, sp⟩ := a
    have h0 := hcell 0 (by omega)
    simp [Addr.add] at h0
    have hsp : sp = none := World.cell?_spot h0
    subst hsp
    have add : ∀ i, (⟨b, off, none⟩ : Addr).add i = ⟨b, off + i, none⟩ := fun i => Addr.add_lit _ _ _
    have some_of : ∀ i, i < 3 → ∃ y, xs[i]? = some y := fun i hi => ⟨xs[i]'(by rw [hxl]; exact hi), List.getElem?_eq_getElem _⟩
    obtain ⟨y0, e0⟩ := some_of 0 (by omega)
    obtain ⟨y1, e1⟩ := some_of 1 (by omega)
    obtain ⟨y2, e2⟩ := some_of 2 (by omega)
    have f0 : DataW.trod enc Yba.prog W base spare held m 5 (([v0, v1, v2].drop 0).take (Yba.prog.cellsOf 5)) = some y0 := (hf 0 _ rfl).trans e0
    rw [cells5] at f0
    have f1 : DataW.trod enc Yba.prog W base spare held m 5 (([v0, v1, v2].drop 1).take (Yba.prog.cellsOf 5)) = some y1 := (hf 1 _ rfl).trans e1
    rw [cells5] at f1
    have f2 : DataW.trod enc Yba.prog W base spare held m 5 (([v0, v1, v2].drop 2).take (Yba.prog.cellsOf 5)) = some y2 := (hf 2 _ rfl).trans e2
    rw [cells5] at f2
    obtain ⟨n0, q0, _, w0⟩ := DataW.trod_int Yba.underlying5 f0
    obtain ⟨n1, q1, _, w1⟩ := DataW.trod_int Yba.underlying5 f1
    obtain ⟨n2, q2, _, w2⟩ := DataW.trod_int Yba.underlying5 f2
    simp only [List.drop_succ_cons, List.drop_zero, List.take_succ_cons, List.take_zero, List.cons.injEq, and_true] at q0 q1 q2
    subst q0 q1 q2
    refine ⟨b, off, (n0, n1, n2), rfl, ?_, ?_, ?_, ?_, ?_, ?_⟩
    · have := hcell 0 (by omega); rw [add] at this; exact this
    · have := hcell 1 (by omega); rw [add] at this; exact this
    · have := hcell 2 (by omega); rw [add] at this; exact this
    · simpa [Lit.wf, IntKind.min, IntKind.max, IntKind.signed, IntKind.bits] using w0
    · simpa [Lit.wf, IntKind.min, IntKind.max, IntKind.signed, IntKind.bits] using w1
    · simpa [Lit.wf, IntKind.min, IntKind.max, IntKind.signed, IntKind.bits] using w2

theorem drawn_open {H : Type} {enc : TypeId × Value → H} {W : World} {spare : Nat → Bool} {held : Bool} {fuel : Nat} {a : Option Addr} {len cap : Nat} {x : DataW H × List MemPlace}
    (h : DataW.trod enc Yba.prog W 0 spare held fuel 22 [.slice a len cap] = some x) : ∃ k t z, Drawn W a len k t z := by
  rcases Go.Deep.open_slice Yba.underlying22 h with ⟨hcs, _⟩ | ⟨a', len', cap', m, n, D, Pl, hcs, _, hl, hm, em, _, hel⟩
  · simp at hcs
    obtain ⟨rfl, rfl, rfl⟩ := hcs
    exact ⟨fun _ => 0, fun _ => 0, fun _ => 0, ⟨by omega, fun _ _ e => by simp at e, fun _ _ e => by simp at e, fun _ _ e => by simp at e, by omega, by omega, by omega⟩⟩
  · simp at hcs
    obtain ⟨rfl, rfl, rfl⟩ := hcs
    have hlm : len ≤ m := by rw [em]; split <;> omega
    have hst : ∀ i, i < len → ∃ b off s, a'.add (i * 3) = ⟨b, off, none⟩ ∧ DrawnAt W b off s := fun i hi => by
      obtain ⟨cs', h1, h2⟩ := hel i (by omega)
      obtain ⟨b, off, s, e, h3⟩ := drawn_at h1 h2
      rw [cells29] at e
      exact ⟨b, off, s, e, h3⟩
    by_cases hz : 0 < len
    · obtain ⟨b, off, s, e, _⟩ := hst 0 hz
      simp [Addr.add] at e
      subst e
      have hst' : ∀ i, i < len → ∃ s, DrawnAt W b (off + i * 3) s := fun i hi => by
        obtain ⟨b', off', s, e, h3⟩ := hst i hi
        rw [Addr.add_lit] at e
        simp only [Addr.mk.injEq, and_true] at e
        obtain ⟨rfl, rfl⟩ := e
        exact ⟨s, h3⟩
      obtain ⟨f, key⟩ : ∃ f : Nat → Int × Int × Int, ∀ i, i < len → DrawnAt W b (off + i * 3) (f i) :=
        ⟨fun i => if hi : i < len then Classical.choose (hst' i hi) else (0, 0, 0), fun i hi => by simp only [dif_pos hi]; exact Classical.choose_spec (hst' i hi)⟩
      exact ⟨fun i => (f i).1, fun i => (f i).2.1, fun i => (f i).2.2, ⟨fun _ => ⟨b, off, rfl⟩, fun _ _ e i hi => by simp at e; obtain ⟨rfl, rfl⟩ := e; exact (key i hi).1, fun _ _ e i hi => by simp at e; obtain ⟨rfl, rfl⟩ := e; exact (key i hi).2.1,
        fun _ _ e i hi => by simp at e; obtain ⟨rfl, rfl⟩ := e; exact (key i hi).2.2.1, fun i hi => (key i hi).2.2.2.1, fun i hi => (key i hi).2.2.2.2.1, fun i hi => (key i hi).2.2.2.2.2⟩⟩
    · exact ⟨fun _ => 0, fun _ => 0, fun _ => 0, ⟨by omega, fun _ _ _ i hi => by omega, fun _ _ _ i hi => by omega, fun _ _ _ i hi => by omega, by omega, by omega, by omega⟩⟩

theorem given_open {H : Type} {enc : TypeId × Value → H} {W : World} {spare : Nat → Bool} {held : Bool} {fuel : Nat} {a : Option Addr} {len cap : Nat} {x : DataW H × List MemPlace}
    (h : DataW.trod enc Yba.prog W 0 spare held fuel 23 [.slice a len cap] = some x) : ∃ u, Given W a len u := by
  rcases Go.Deep.open_slice Yba.underlying23 h with ⟨hcs, _⟩ | ⟨a', len', cap', m, n, D, Pl, hcs, _, hl, hm, em, _, hel⟩
  · simp at hcs
    obtain ⟨rfl, rfl, rfl⟩ := hcs
    exact ⟨fun _ => 0, ⟨by omega, fun _ _ e => by simp at e⟩⟩
  · simp at hcs
    obtain ⟨rfl, rfl, rfl⟩ := hcs
    have hlm : len ≤ m := by rw [em]; split <;> omega
    have hst : ∀ i, i < len → ∃ (b off : Nat) (s : Int), a'.add i = ⟨b, off, none⟩ ∧ W.cell? ⟨b, off, none⟩ = some (.int .i32 s) := fun i hi => by
      obtain ⟨cs', h1, h2⟩ := hel i (by omega)
      rw [cells21, Nat.mul_one] at h1
      obtain ⟨_, hl', hcell⟩ := World.cells?_some h1
      obtain ⟨s, q, _⟩ := DataW.trod_int Yba.underlying21 h2
      subst q
      have h0 := hcell 0 (by omega)
      generalize a'.add i = a2 at h0 ⊢
      obtain ⟨b, off, sp⟩ := a2
      simp [Addr.add] at h0
      have hsp : sp = none := World.cell?_spot h0
      subst hsp
      exact ⟨b, off, s, rfl, h0⟩
    by_cases hz : 0 < len
    · obtain ⟨b, off, s, e, _⟩ := hst 0 hz
      simp [Addr.add] at e
      subst e
      have hst' : ∀ i, i < len → ∃ s : Int, W.cell? ⟨b, off + i, none⟩ = some (.int .i32 s) := fun i hi => by
        obtain ⟨b', off', s, e, h3⟩ := hst i hi
        rw [Addr.add_lit] at e
        simp only [Addr.mk.injEq, and_true] at e
        obtain ⟨rfl, rfl⟩ := e
        exact ⟨s, h3⟩
      obtain ⟨f, key⟩ : ∃ f : Nat → Int, ∀ i, i < len → W.cell? ⟨b, off + i, none⟩ = some (.int .i32 (f i)) :=
        ⟨fun i => if hi : i < len then Classical.choose (hst' i hi) else 0, fun i hi => by simp only [dif_pos hi]; exact Classical.choose_spec (hst' i hi)⟩
      exact ⟨f, ⟨fun _ => ⟨b, off, rfl⟩, fun _ _ e i hi => by simp at e; obtain ⟨rfl, rfl⟩ := e; exact key i hi⟩⟩
    · exact ⟨fun _ => 0, ⟨by omega, fun _ _ _ i hi => by omega⟩⟩
end Go.Proofs.Ybulkfhsm.A
