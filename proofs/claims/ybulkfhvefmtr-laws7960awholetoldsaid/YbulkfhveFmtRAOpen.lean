/-
  The law's arguments opened: a struct of a byte and a slice of bytes.
-/
import Derived.Test.YbulkfhveFmtRALaw
import Derived.ProofKit
import Derived.OpenShut
import Derived.ChangeSlices
namespace Go.Proofs.YbulkfhveFmtR.A
open Go.ChangeShapes Go.WideShapes Go.ChangeAt Go.RowKit

theorem cells5 : Ybaf.prog.cellsOf 5 = 1 := by kernel_rfl
theorem cells22 : Ybaf.prog.cellsOf 22 = 1 := by kernel_rfl
theorem cells24 : Ybaf.prog.cellsOf 24 = 2 := by kernel_rfl

theorem wf_u8 {n : Int} (h : (Lit.int .u8 n).wf = true) : 0 ≤ n ∧ n ≤ 255 := by
  simp [Lit.wf, IntKind.min, IntKind.max, IntKind.signed, IntKind.bits] at h
  exact h
def toB (n : Int) : UInt8 := UInt8.ofNat n.toNat
theorem toB_nat {n : Int} (h : (Lit.int .u8 n).wf = true) : ((toB n).toNat : Int) = n := by
  obtain ⟨a, b⟩ := wf_u8 h
  unfold toB
  rw [UInt8.toNat_ofNat']
  omega

section
variable {H : Type} {enc : TypeId × Value → H} {W : World} {spare : Nat → Bool} {held : Bool} {fuel : Nat} {cs : List Value} {x : DataW H × List MemPlace}

theorem xs_open {v : Value} (h : DataW.trod enc Ybaf.prog W 0 spare held fuel 22 [v] = some x) : ∃ pa t pc, v = .slice pa t.length pc ∧ Bytes W W.heap.size pa t := by
  rcases open_ints Ybaf.underlying22 Ybaf.underlying5 cells5 h with ⟨hcs, _⟩ | ⟨a, len, cap, zs, hcs, _, hl, hm, hz, _, hcell, hwz⟩
  · simp at hcs
    exact ⟨none, [], 0, hcs, fun h => by simp at h, fun b o e => by simp at e⟩
  · simp at hcs
    have hlz : len ≤ zs.length := by rw [hz]; split <;> omega
    have key : ∀ j (hj : j < ((zs.take len).map toB).length), W.cell? (a.add j) = some (.int .u8 ((((zs.take len).map toB)[j]'hj).toNat : Int)) := fun j hj => by
      have hj' : j < len := by
        simp at hj
        omega
      have hc := hcell j (by omega)
      rw [hc]
      have e1 : zs.getD j 0 = zs[j]'(by omega) := by simp [List.getD, List.getElem?_eq_getElem (show j < zs.length by omega)]
      have hw := hwz (zs[j]'(by omega)) (List.getElem_mem _)
      rw [e1]
      congr 2
      simp only [List.getElem_map, List.getElem_take]
      exact (toB_nat hw).symm
    obtain ⟨b, off, sp⟩ := a
    refine ⟨some ⟨b, off, sp⟩, (zs.take len).map toB, cap, ?_, fun h0 => ?_, fun b' o' e i hi => ?_⟩
    · rw [hcs, List.length_map, List.length_take, Nat.min_eq_left hlz]
    · have h1 := key 0 h0
      have hsp : sp = none := by simpa [Addr.add] using World.cell?_spot h1
      subst hsp
      refine ⟨b, off, rfl, ?_⟩
      have := World.block_lt_of_cell? _ _ h1
      simpa [Addr.add] using this
    · cases e
      have h1 := key i hi
      rwa [Addr.add_mid] at h1

theorem prim_open (h : DataW.trod enc Ybaf.prog W 0 spare held fuel 24 cs = some x) : ∃ (k : UInt8) (pa : Option Addr) (t : List UInt8) (pc : Nat), cs = [.int .u8 (k.toNat : Int), .slice pa t.length pc] ∧ Bytes W W.heap.size pa t := by
  obtain ⟨xs, m, rfl, _, hl, hxl, hf⟩ := DataW.trod_struct Ybaf.underlying24 h
  rw [cells24] at hl
  have some_of : ∀ i, i < 2 → ∃ y, xs[i]? = some y := fun i hi => ⟨xs[i]'(by rw [hxl]; exact hi), List.getElem?_eq_getElem _⟩
  obtain ⟨y0, e0⟩ := some_of 0 (by omega)
  obtain ⟨y1, e1⟩ := some_of 1 (by omega)
  have f0 : DataW.trod enc Ybaf.prog W 0 spare held m 5 ((cs.drop 0).take (Ybaf.prog.cellsOf 5)) = some y0 := (hf 0 _ rfl).trans e0
  have f1 : DataW.trod enc Ybaf.prog W 0 spare held m 22 ((cs.drop 1).take (Ybaf.prog.cellsOf 22)) = some y1 := (hf 1 _ rfl).trans e1
  rw [cells5] at f0
  rw [cells22] at f1
  match cs, hl, f0, f1 with
  | [a, b], _, f0, f1 =>
    obtain ⟨n, q, _, hw⟩ := DataW.trod_int Ybaf.underlying5 f0
    have q' : a = .int .u8 n := (List.cons.inj q).1
    obtain ⟨pa, t, pc, e, hx⟩ := xs_open (v := b) f1
    exact ⟨toB n, pa, t, pc, by rw [q', e, toB_nat hw], hx⟩
end
end Go.Proofs.YbulkfhveFmtR.A
