/-
  The law's argument opened: a slice of operations.
-/
import Derived.Test.YbulkfhsmCTrans
import Derived.ProofKit
import Derived.OpenShut
import Derived.Deep.Slices
namespace Go.Proofs.Ybulkfhsm.C
open Go.ChangeShapes Go.WideShapes Go.ChangeAt Go.RowKit

theorem cells32 : Yba.prog.cellsOf 32 = 3 := by kernel_rfl
theorem cells30 : Yba.prog.cellsOf 30 = 1 := by kernel_rfl
theorem cells25 : Yba.prog.cellsOf 25 = 1 := by kernel_rfl
theorem cells9 : Yba.prog.cellsOf 9 = 1 := by kernel_rfl

/-- What the i-th operation's cells hold. -/
def OpnAt (w : World) (b off : Nat) (o : Opn) : Prop :=
  w.cell? ⟨b, off, none⟩ = some (.int .u8 o.kind) ∧ w.cell? ⟨b, off + 1, none⟩ = some (.int .i32 o.txn) ∧ w.cell? ⟨b, off + 2, none⟩ = some (.string o.obj) ∧ wf32 o.txn

set_option maxRecDepth 100000 in
theorem opn_open {H : Type} {enc : TypeId × Value → H} {W : World} {base : Nat} {spare : Nat → Bool} {held : Bool} {n : Nat} {a : Addr} {cs : List Value} {x : DataW H × List MemPlace}
    (hc : W.cells? base a (Yba.prog.cellsOf 32) = some cs) (h : DataW.trod enc Yba.prog W base spare held n 32 cs = some x) : ∃ b off s, a = ⟨b, off, none⟩ ∧ OpnAt W b off s := by
  obtain ⟨_, hl, hcell⟩ := World.cells?_some hc
  obtain ⟨xs, m, rfl, _, _, hxl, hf⟩ := DataW.trod_struct Yba.underlying32 h
  rw [cells32] at hl hcell
  match cs, hl with
  | [v0, v1, v2], _ =>
    obtain ⟨b, off, sp⟩ := a
    have h0 := hcell 0 (by omega)
    simp [Addr.add] at h0
    have hsp : sp = none := World.cell?_spot h0
    subst hsp
    have add : ∀ i, (⟨b, off, none⟩ : Addr).add i = ⟨b, off + i, none⟩ := fun i => Addr.add_lit _ _ _
    have some_of : ∀ i, i < 3 → ∃ y, xs[i]? = some y := fun i hi => ⟨xs[i]'(by rw [hxl]; exact hi), List.getElem?_eq_getElem _⟩
    obtain ⟨y0, e0⟩ := some_of 0 (by omega)
    obtain ⟨y1, e1⟩ := some_of 1 (by omega)
    obtain ⟨y2, e2⟩ := some_of 2 (by omega)
    have f0 : DataW.trod enc Yba.prog W base spare held m 30 (([v0, v1, v2].drop 0).take (Yba.prog.cellsOf 30)) = some y0 := (hf 0 _ rfl).trans e0
    rw [cells30] at f0
    have f1 : DataW.trod enc Yba.prog W base spare held m 25 (([v0, v1, v2].drop 1).take (Yba.prog.cellsOf 25)) = some y1 := (hf 1 _ rfl).trans e1
    rw [cells25] at f1
    have f2 : DataW.trod enc Yba.prog W base spare held m 9 (([v0, v1, v2].drop 2).take (Yba.prog.cellsOf 9)) = some y2 := (hf 2 _ rfl).trans e2
    rw [cells9] at f2
    obtain ⟨n0, q0, _, w0⟩ := DataW.trod_int Yba.underlying30 f0
    obtain ⟨n1, q1, _, w1⟩ := DataW.trod_int Yba.underlying25 f1
    obtain ⟨s2, q2, _⟩ := DataW.trod_string Yba.underlying9 f2
    simp only [List.drop_succ_cons, List.drop_zero, List.take_succ_cons, List.take_zero, List.cons.injEq, and_true] at q0 q1 q2
    subst q0 q1 q2
    refine ⟨b, off, ⟨n0, n1, s2⟩, rfl, ?_, ?_, ?_, ?_⟩
    · have := hcell 0 (by omega); rw [add] at this; exact this
    · have := hcell 1 (by omega); rw [add] at this; exact this
    · have := hcell 2 (by omega); rw [add] at this; exact this
    · simpa [Lit.wf, IntKind.min, IntKind.max, IntKind.signed, IntKind.bits, wf32] using w1

theorem hist_open {H : Type} {enc : TypeId × Value → H} {W : World} {spare : Nat → Bool} {held : Bool} {fuel : Nat} {a : Option Addr} {len cap : Nat} {x : DataW H × List MemPlace}
    (h : DataW.trod enc Yba.prog W 0 spare held fuel 27 [.slice a len cap] = some x) : len ≤ maxLen ∧ ∃ A, Hist W a len A := by
  rcases Go.Deep.open_slice Yba.underlying27 h with ⟨hcs, _⟩ | ⟨a', len', cap', m, n, D, Pl, hcs, _, hl, hm, em, _, hel⟩
  · simp at hcs
    obtain ⟨rfl, rfl, rfl⟩ := hcs
    exact ⟨by omega, fun _ => ⟨0, 0, ByteArray.empty⟩, ⟨by omega, fun _ _ e => by simp at e, fun _ _ e => by simp at e, fun _ _ e => by simp at e, by omega⟩⟩
  · simp at hcs
    obtain ⟨rfl, rfl, rfl⟩ := hcs
    have hlm : len ≤ m := by rw [em]; split <;> omega
    refine ⟨by omega, ?_⟩
    have hst : ∀ i, i < len → ∃ b off s, a'.add (i * 3) = ⟨b, off, none⟩ ∧ OpnAt W b off s := fun i hi => by
      obtain ⟨cs', h1, h2⟩ := hel i (by omega)
      obtain ⟨b, off, s, e, h3⟩ := opn_open h1 h2
      rw [cells32] at e
      exact ⟨b, off, s, e, h3⟩
    by_cases hz : 0 < len
    · obtain ⟨b, off, s, e, _⟩ := hst 0 hz
      simp [Addr.add] at e
      subst e
      have hst' : ∀ i, i < len → ∃ s, OpnAt W b (off + i * 3) s := fun i hi => by
        obtain ⟨b', off', s, e, h3⟩ := hst i hi
        rw [Addr.add_lit] at e
        simp only [Addr.mk.injEq, and_true] at e
        obtain ⟨rfl, rfl⟩ := e
        exact ⟨s, h3⟩
      refine ⟨fun i => if hi : i < len then Classical.choose (hst' i hi) else ⟨0, 0, ByteArray.empty⟩, ?_⟩
      have key : ∀ i, i < len → OpnAt W b (off + i * 3) ((fun i => if hi : i < len then Classical.choose (hst' i hi) else ⟨0, 0, ByteArray.empty⟩) i) := fun i hi => by
        simp only [dif_pos hi]; exact Classical.choose_spec (hst' i hi)
      exact ⟨fun _ => ⟨b, off, rfl⟩, fun _ _ e i hi => by simp at e; obtain ⟨rfl, rfl⟩ := e; exact (key i hi).1, fun _ _ e i hi => by simp at e; obtain ⟨rfl, rfl⟩ := e; exact (key i hi).2.1,
        fun _ _ e i hi => by simp at e; obtain ⟨rfl, rfl⟩ := e; exact (key i hi).2.2.1, fun i hi => (key i hi).2.2.2⟩
    · exact ⟨fun _ => ⟨0, 0, ByteArray.empty⟩, ⟨by omega, fun _ _ _ i hi => by omega, fun _ _ _ i hi => by omega, fun _ _ _ i hi => by omega, by omega⟩⟩
end Go.Proofs.Ybulkfhsm.C
