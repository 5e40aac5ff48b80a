/-
  The law's argument opened: a slice of steps.
-/
import Derived.Test.YbulkfhsmBLaw0
import Derived.ProofKit
import Derived.OpenShut
import Derived.Deep.Slices
namespace Go.Proofs.Ybulkfhsm.B
open Go.ChangeShapes Go.WideShapes Go.ChangeAt Go.RowKit

theorem cells62 : Yba.prog.cellsOf 62 = 6 := by kernel_rfl
theorem cells5 : Yba.prog.cellsOf 5 = 1 := by kernel_rfl
theorem cells60 : Yba.prog.cellsOf 60 = 1 := by kernel_rfl
theorem cells21 : Yba.prog.cellsOf 21 = 1 := by kernel_rfl
theorem cells4 : Yba.prog.cellsOf 4 = 1 := by kernel_rfl

/-- What the i-th step's cells hold. -/
def StepAt (w : World) (b off : Nat) (s : Step) : Prop :=
  w.cell? ⟨b, off, none⟩ = some (.int .u8 s.op) ∧ w.cell? ⟨b, off + 1, none⟩ = some (.int .u16 s.place) ∧ w.cell? ⟨b, off + 2, none⟩ = some (.int .i32 s.txn) ∧ w.cell? ⟨b, off + 3, none⟩ = some (.int .i32 s.name) ∧
    w.cell? ⟨b, off + 4, none⟩ = some (.bool s.excl) ∧ w.cell? ⟨b, off + 5, none⟩ = some (.bool s.set) ∧ (0 ≤ s.op ∧ s.op ≤ 255) ∧ (0 ≤ s.place ∧ s.place ≤ 65535)

set_option maxRecDepth 100000 in
theorem step_open {H : Type} {enc : TypeId × Value → H} {W : World} {base : Nat} {spare : Nat → Bool} {held : Bool} {n : Nat} {a : Addr} {cs : List Value} {x : DataW H × List MemPlace}
    (hc : W.cells? base a (Yba.prog.cellsOf 62) = some cs) (h : DataW.trod enc Yba.prog W base spare held n 62 cs = some x) : ∃ b off s, a = ⟨b, off, none⟩ ∧ StepAt W b off s := by
  obtain ⟨_, hl, hcell⟩ := World.cells?_some hc
  obtain ⟨xs, m, rfl, _, _, hxl, hf⟩ := DataW.trod_struct Yba.underlying62 h
  rw [cells62] at hl hcell
  match cs, hl with
  | [v0, v1, v2, v3, v4, v5], _ =>
    obtain ⟨b, off, sp⟩ := a
    have h0 := hcell 0 (by omega)
    simp [Addr.add] at h0
    have hsp : sp = none := World.cell?_spot h0
    subst hsp
    have add : ∀ i, (⟨b, off, none⟩ : Addr).add i = ⟨b, off + i, none⟩ := fun i => Addr.add_lit _ _ _
    have some_of : ∀ i, i < 6 → ∃ y, xs[i]? = some y := fun i hi => ⟨xs[i]'(by rw [hxl]; exact hi), List.getElem?_eq_getElem _⟩
    obtain ⟨y0, e0⟩ := some_of 0 (by omega)
    obtain ⟨y1, e1⟩ := some_of 1 (by omega)
    obtain ⟨y2, e2⟩ := some_of 2 (by omega)
    obtain ⟨y3, e3⟩ := some_of 3 (by omega)
    obtain ⟨y4, e4⟩ := some_of 4 (by omega)
    obtain ⟨y5, e5⟩ := some_of 5 (by omega)
    have f0 : DataW.trod enc Yba.prog W base spare held m 5 (([v0, v1, v2, v3, v4, v5].drop 0).take (Yba.prog.cellsOf 5)) = some y0 := (hf 0 _ rfl).trans e0
    rw [cells5] at f0
    have f1 : DataW.trod enc Yba.prog W base spare held m 60 (([v0, v1, v2, v3, v4, v5].drop 1).take (Yba.prog.cellsOf 60)) = some y1 := (hf 1 _ rfl).trans e1
    rw [cells60] at f1
    have f2 : DataW.trod enc Yba.prog W base spare held m 21 (([v0, v1, v2, v3, v4, v5].drop 2).take (Yba.prog.cellsOf 21)) = some y2 := (hf 2 _ rfl).trans e2
    rw [cells21] at f2
    have f3 : DataW.trod enc Yba.prog W base spare held m 21 (([v0, v1, v2, v3, v4, v5].drop 3).take (Yba.prog.cellsOf 21)) = some y3 := (hf 3 _ rfl).trans e3
    rw [cells21] at f3
    have f4 : DataW.trod enc Yba.prog W base spare held m 4 (([v0, v1, v2, v3, v4, v5].drop 4).take (Yba.prog.cellsOf 4)) = some y4 := (hf 4 _ rfl).trans e4
    rw [cells4] at f4
    have f5 : DataW.trod enc Yba.prog W base spare held m 4 (([v0, v1, v2, v3, v4, v5].drop 5).take (Yba.prog.cellsOf 4)) = some y5 := (hf 5 _ rfl).trans e5
    rw [cells4] at f5
    obtain ⟨n0, q0, _, w0⟩ := DataW.trod_int Yba.underlying5 f0
    obtain ⟨n1, q1, _, w1⟩ := DataW.trod_int Yba.underlying60 f1
    obtain ⟨n2, q2, _, w2⟩ := DataW.trod_int Yba.underlying21 f2
    obtain ⟨n3, q3, _, w3⟩ := DataW.trod_int Yba.underlying21 f3
    obtain ⟨b4, q4, _⟩ := DataW.trod_bool Yba.underlying4 f4
    obtain ⟨b5, q5, _⟩ := DataW.trod_bool Yba.underlying4 f5
    simp only [List.drop_succ_cons, List.drop_zero, List.take_succ_cons, List.take_zero, List.cons.injEq, and_true] at q0 q1 q2 q3 q4 q5
    subst q0 q1 q2 q3 q4 q5
    refine ⟨b, off, ⟨n0, n1, n2, n3, b4, b5⟩, rfl, ?_, ?_, ?_, ?_, ?_, ?_, ?_, ?_⟩
    · have := hcell 0 (by omega); rw [add] at this; exact this
    · have := hcell 1 (by omega); rw [add] at this; exact this
    · have := hcell 2 (by omega); rw [add] at this; exact this
    · have := hcell 3 (by omega); rw [add] at this; exact this
    · have := hcell 4 (by omega); rw [add] at this; exact this
    · have := hcell 5 (by omega); rw [add] at this; exact this
    · simpa [Lit.wf, IntKind.min, IntKind.max, IntKind.signed, IntKind.bits] using w0
    · simpa [Lit.wf, IntKind.min, IntKind.max, IntKind.signed, IntKind.bits] using w1

theorem script_open {H : Type} {enc : TypeId × Value → H} {W : World} {spare : Nat → Bool} {held : Bool} {fuel : Nat} {a : Option Addr} {len cap : Nat} {x : DataW H × List MemPlace}
    (h : DataW.trod enc Yba.prog W 0 spare held fuel 50 [.slice a len cap] = some x) : len ≤ maxLen ∧ ∃ A, Script W a len A := by
  rcases Go.Deep.open_slice Yba.underlying50 h with ⟨hcs, _⟩ | ⟨a', len', cap', m, n, D, Pl, hcs, _, hl, hm, em, _, hel⟩
  · simp at hcs
    obtain ⟨rfl, rfl, rfl⟩ := hcs
    exact ⟨by omega, fun _ => ⟨0, 0, 0, 0, false, false⟩, ⟨by omega, fun _ _ e => by simp at e, fun _ _ e => by simp at e, fun _ _ e => by simp at e, fun _ _ e => by simp at e, fun _ _ e => by simp at e, fun _ _ e => by simp at e, by omega, by omega⟩⟩
  · simp at hcs
    obtain ⟨rfl, rfl, rfl⟩ := hcs
    have hlm : len ≤ m := by rw [em]; split <;> omega
    refine ⟨by omega, ?_⟩
    have hst : ∀ i, i < len → ∃ b off s, a'.add (i * 6) = ⟨b, off, none⟩ ∧ StepAt W b off s := fun i hi => by
      obtain ⟨cs', h1, h2⟩ := hel i (by omega)
      obtain ⟨b, off, s, e, h3⟩ := step_open h1 h2
      rw [cells62] at e
      exact ⟨b, off, s, e, h3⟩
    by_cases hz : 0 < len
    · obtain ⟨b, off, s, e, _⟩ := hst 0 hz
      simp [Addr.add] at e
      subst e
      have hst' : ∀ i, i < len → ∃ s, StepAt W b (off + i * 6) s := fun i hi => by
        obtain ⟨b', off', s, e, h3⟩ := hst i hi
        rw [Addr.add_lit] at e
        simp only [Addr.mk.injEq, and_true] at e
        obtain ⟨rfl, rfl⟩ := e
        exact ⟨s, h3⟩
      refine ⟨fun i => if hi : i < len then Classical.choose (hst' i hi) else ⟨0, 0, 0, 0, false, false⟩, ?_⟩
      have key : ∀ i, i < len → StepAt W b (off + i * 6) ((fun i => if hi : i < len then Classical.choose (hst' i hi) else ⟨0, 0, 0, 0, false, false⟩) i) := fun i hi => by
        simp only [dif_pos hi]; exact Classical.choose_spec (hst' i hi)
      exact ⟨fun _ => ⟨b, off, rfl⟩, fun _ _ e i hi => by simp at e; obtain ⟨rfl, rfl⟩ := e; exact (key i hi).1, fun _ _ e i hi => by simp at e; obtain ⟨rfl, rfl⟩ := e; exact (key i hi).2.1,
        fun _ _ e i hi => by simp at e; obtain ⟨rfl, rfl⟩ := e; exact (key i hi).2.2.1, fun _ _ e i hi => by simp at e; obtain ⟨rfl, rfl⟩ := e; exact (key i hi).2.2.2.1,
        fun _ _ e i hi => by simp at e; obtain ⟨rfl, rfl⟩ := e; exact (key i hi).2.2.2.2.1, fun _ _ e i hi => by simp at e; obtain ⟨rfl, rfl⟩ := e; exact (key i hi).2.2.2.2.2.1,
        fun i hi => (key i hi).2.2.2.2.2.2.1, fun i hi => (key i hi).2.2.2.2.2.2.2⟩
    · exact ⟨fun _ => ⟨0, 0, 0, 0, false, false⟩, ⟨by omega, fun _ _ _ i hi => by omega, fun _ _ _ i hi => by omega, fun _ _ _ i hi => by omega, fun _ _ _ i hi => by omega, fun _ _ _ i hi => by omega, fun _ _ _ i hi => by omega, by omega, by omega⟩⟩
end Go.Proofs.Ybulkfhsm.B
