/-
  The law's arguments opened: arrays of bytes, quintets, a slice of them.
-/
import Derived.Test.YbulkfhtoFmtALaw
import Derived.ProofKit
import Derived.OpenShut
import Derived.ChangeSlices
import Derived.Deep.Slices
namespace Go.Proofs.YbulkfhtoFmt.A
open Go.ChangeShapes Go.WideShapes Go.ChangeAt Go.RowKit

theorem cells5 : Ybaf.prog.cellsOf 5 = 1 := by kernel_rfl
theorem cells22 : Ybaf.prog.cellsOf 22 = 16 := by kernel_rfl
theorem cells25 : Ybaf.prog.cellsOf 25 = 1 := by kernel_rfl
theorem cells3 : Ybaf.prog.cellsOf 3 = 1 := by kernel_rfl
theorem cells24 : Ybaf.prog.cellsOf 24 = 33 := by kernel_rfl
theorem cells27 : Ybaf.prog.cellsOf 27 = 65 := by kernel_rfl

theorem wf_u8 {n : Int} (h : (Lit.int .u8 n).wf = true) : 0 ≤ n ∧ n ≤ 255 := by
  simp [Lit.wf, IntKind.min, IntKind.max, IntKind.signed, IntKind.bits] at h
  exact h
def toB (n : Int) : UInt8 := UInt8.ofNat n.toNat
theorem toB_nat {n : Int} (h : (Lit.int .u8 n).wf = true) : ((toB n).toNat : Int) = n := by
  obtain ⟨a, b⟩ := wf_u8 h
  unfold toB
  rw [UInt8.toNat_ofNat']
  omega

section
variable {H : Type} {enc : TypeId × Value → H} {W : World} {base : Nat} {spare : Nat → Bool} {held : Bool} {fuel : Nat} {cs : List Value} {x : DataW H × List MemPlace}

theorem arr_open (h : DataW.trod enc Ybaf.prog W base spare held fuel 22 cs = some x) : ∃ l : List UInt8, l.length = 16 ∧ cs = bc l := by
  obtain ⟨xs, m, rfl, _, hl, hxl, hf⟩ := DataW.trod_array Ybaf.underlying22 h
  rw [cells22] at hl
  have key : ∀ i, i < 16 → ∃ n : Int, cs[i]? = some (.int .u8 n) ∧ (Lit.int .u8 n).wf = true := fun i hi => by
    have h1 := hf i hi
    rw [cells5, Nat.mul_one] at h1
    have hx : xs[i]? = some (xs[i]'(by omega)) := List.getElem?_eq_getElem _
    rw [hx] at h1
    obtain ⟨n, e, _, hw⟩ := DataW.trod_int Ybaf.underlying5 h1
    refine ⟨n, ?_, hw⟩
    have hd : cs.drop i = cs[i]'(by omega) :: cs.drop (i + 1) := List.drop_eq_getElem_cons (by omega)
    have e2 : (cs.drop i).take 1 = [cs[i]'(by omega)] := by rw [hd]; rfl
    rw [e2] at e
    rw [List.getElem?_eq_getElem (by omega), (List.cons.inj e).1]
  have hc : ∀ i (hi : i < cs.length), ∃ b : UInt8, cs[i] = .int .u8 (b.toNat : Int) := fun i hi => by
    obtain ⟨n, e, hw⟩ := key i (by omega)
    rw [List.getElem?_eq_getElem hi] at e
    exact ⟨toB n, by rw [toB_nat hw]; exact Option.some.inj e⟩
  refine ⟨(List.range 16).map fun i => if hi : i < cs.length then Classical.choose (hc i hi) else 0, by simp, ?_⟩
  apply List.ext_getElem
  · simp [bc, hl]
  · intro i h1 h2
    have := Classical.choose_spec (hc i h1)
    simp [bc, h1]
    exact this

theorem xs_open {W : World} {v : Value} (h : DataW.trod enc Ybaf.prog W 0 spare held fuel 25 [v] = some x) : ∃ pa t pc, v = .slice pa t.length pc ∧ Xs W pa t pc := by
  rcases open_ints Ybaf.underlying25 Ybaf.underlying5 cells5 h with ⟨hcs, _⟩ | ⟨a, len, cap, zs, hcs, _, hl, hm, hz, _, hcell, hwz⟩
  · simp at hcs
    exact ⟨none, [], 0, hcs, fun _ => ⟨rfl, rfl⟩, fun x e => by simp at e⟩
  · simp at hcs
    have hlz : len ≤ zs.length := by rw [hz]; split <;> omega
    refine ⟨some a, (zs.take len).map toB, cap, ?_, fun e => by simp at e, fun x e j u hu => ?_⟩
    · rw [hcs, List.length_map, List.length_take, Nat.min_eq_left hlz]
    · cases e
      have hj : j < len := by
        have := (List.getElem?_eq_some_iff.1 hu).1
        simp [bc] at this
        omega
      have hc := hcell j (by omega)
      rw [hc, ← hu]
      have e1 : zs.getD j 0 = zs[j]'(by omega) := by simp [List.getD, List.getElem?_eq_getElem (show j < zs.length by omega)]
      have hw := hwz (zs[j]'(by omega)) (List.getElem_mem _)
      rw [e1, bc_get _ (by simp; omega)]
      congr 2
      simp only [List.getElem_map, List.getElem_take]
      exact (toB_nat hw).symm

theorem ctx_open (h : DataW.trod enc Ybaf.prog W base spare held fuel 24 cs = some x) : ∃ ck ik k, cs = bc ck ++ (bc ik ++ [.int .i64 k]) ∧ ck.length = 16 ∧ ik.length = 16 ∧ (Lit.int .i64 k).wf = true := by
  obtain ⟨xs, m, rfl, _, hl, hxl, hf⟩ := DataW.trod_struct Ybaf.underlying24 h
  rw [cells24] at hl
  have some_of : ∀ i, i < 3 → ∃ y, xs[i]? = some y := fun i hi => ⟨xs[i]'(by rw [hxl]; exact hi), List.getElem?_eq_getElem _⟩
  obtain ⟨y0, e0⟩ := some_of 0 (by omega)
  obtain ⟨y1, e1⟩ := some_of 1 (by omega)
  obtain ⟨y2, e2⟩ := some_of 2 (by omega)
  have f0 : DataW.trod enc Ybaf.prog W base spare held m 22 ((cs.drop 0).take (Ybaf.prog.cellsOf 22)) = some y0 := (hf 0 _ rfl).trans e0
  have f1 : DataW.trod enc Ybaf.prog W base spare held m 22 ((cs.drop 16).take (Ybaf.prog.cellsOf 22)) = some y1 := (hf 1 _ rfl).trans e1
  have f2 : DataW.trod enc Ybaf.prog W base spare held m 3 ((cs.drop 32).take (Ybaf.prog.cellsOf 3)) = some y2 := (hf 2 _ rfl).trans e2
  rw [cells22] at f0 f1
  rw [cells3] at f2
  obtain ⟨ck, l1, q1⟩ := arr_open f0
  obtain ⟨ik, l2, q2⟩ := arr_open f1
  obtain ⟨k, q3, _, w3⟩ := DataW.trod_int Ybaf.underlying3 f2
  refine ⟨ck, ik, k, ?_, l1, l2, w3⟩
  rw [← q1, ← q2, ← q3]
  have p1 : cs = cs.take 16 ++ cs.drop 16 := (List.take_append_drop 16 cs).symm
  have p2 : cs.drop 16 = (cs.drop 16).take 16 ++ cs.drop 32 := by
    have := (List.take_append_drop 16 (cs.drop 16)).symm
    rwa [List.drop_drop] at this
  have p3 : cs.drop 32 = (cs.drop 32).take 1 := by rw [List.take_of_length_le (by rw [List.length_drop]; omega)]
  rw [List.drop_zero]
  rw [← p3, ← p2]
  exact p1

theorem quin_open {W : World} (h : DataW.trod enc Ybaf.prog W 0 spare held fuel 27 cs = some x) : ∃ q : Qn, cs = q.cells ∧ q.Ok0 ∧ Xs W q.pa q.t q.pc := by
  obtain ⟨xs, m, rfl, _, hl, hxl, hf⟩ := DataW.trod_struct Ybaf.underlying27 h
  rw [cells27] at hl
  have some_of : ∀ i, i < 5 → ∃ y, xs[i]? = some y := fun i hi => ⟨xs[i]'(by rw [hxl]; exact hi), List.getElem?_eq_getElem _⟩
  obtain ⟨y0, e0⟩ := some_of 0 (by omega)
  obtain ⟨y1, e1⟩ := some_of 1 (by omega)
  obtain ⟨y2, e2⟩ := some_of 2 (by omega)
  obtain ⟨y3, e3⟩ := some_of 3 (by omega)
  obtain ⟨y4, e4⟩ := some_of 4 (by omega)
  have f0 : DataW.trod enc Ybaf.prog W 0 spare held m 22 ((cs.drop 0).take (Ybaf.prog.cellsOf 22)) = some y0 := (hf 0 _ rfl).trans e0
  have f1 : DataW.trod enc Ybaf.prog W 0 spare held m 25 ((cs.drop 16).take (Ybaf.prog.cellsOf 25)) = some y1 := (hf 1 _ rfl).trans e1
  have f2 : DataW.trod enc Ybaf.prog W 0 spare held m 22 ((cs.drop 17).take (Ybaf.prog.cellsOf 22)) = some y2 := (hf 2 _ rfl).trans e2
  have f3 : DataW.trod enc Ybaf.prog W 0 spare held m 22 ((cs.drop 33).take (Ybaf.prog.cellsOf 22)) = some y3 := (hf 3 _ rfl).trans e3
  have f4 : DataW.trod enc Ybaf.prog W 0 spare held m 22 ((cs.drop 49).take (Ybaf.prog.cellsOf 22)) = some y4 := (hf 4 _ rfl).trans e4
  rw [cells22] at f0 f2 f3 f4
  rw [cells25] at f1
  obtain ⟨r, l0, q0⟩ := arr_open f0
  obtain ⟨c, l2, q2⟩ := arr_open f2
  obtain ⟨i, l3, q3⟩ := arr_open f3
  obtain ⟨a, l4, q4⟩ := arr_open f4
  have hd : cs.drop 16 = cs[16]'(by omega) :: cs.drop 17 := List.drop_eq_getElem_cons (by omega)
  have q1 : (cs.drop 16).take 1 = [cs[16]'(by omega)] := by rw [hd]; rfl
  rw [q1] at f1
  obtain ⟨pa, t, pc, ev, hx⟩ := xs_open f1
  refine ⟨⟨r, pa, t, pc, c, i, a⟩, ?_, ⟨l0, l2, l3, l4, fun e => (hx.nil e).1⟩, hx⟩
  unfold Qn.cells
  rw [← q0, ← q2, ← q3, ← q4, ← ev, List.drop_zero]
  have p1 : cs = cs.take 16 ++ cs.drop 16 := (List.take_append_drop 16 cs).symm
  have p2 : cs.drop 17 = (cs.drop 17).take 16 ++ cs.drop 33 := by
    have := (List.take_append_drop 16 (cs.drop 17)).symm
    rwa [List.drop_drop] at this
  have p3 : cs.drop 33 = (cs.drop 33).take 16 ++ cs.drop 49 := by
    have := (List.take_append_drop 16 (cs.drop 33)).symm
    rwa [List.drop_drop] at this
  have p4 : cs.drop 49 = (cs.drop 49).take 16 := by rw [List.take_of_length_le (by rw [List.length_drop]; omega)]
  rw [← p4, ← p3, ← p2, ← hd]
  exact p1

theorem vecs_open {W : World} {a : Option Addr} {len cap : Nat} (h : DataW.trod enc Ybaf.prog W 0 spare held fuel 28 [.slice a len cap] = some x) :
    (a = none → len = 0 ∧ cap = 0) ∧ ∃ zs : Nat → Qn, ∀ j, j < len → ∃ b off, a = some ⟨b, off, none⟩ ∧ W.rangeAt b (off + j * 65) (zs j).cells ∧ (zs j).Ok0 ∧ Xs W (zs j).pa (zs j).t (zs j).pc := by
  rcases Go.Deep.open_slice Ybaf.underlying28 h with ⟨hcs, _⟩ | ⟨a', len', cap', m, n, D, Pl, hcs, _, hl, hm, em, _, hel⟩
  · simp at hcs
    obtain ⟨rfl, rfl, rfl⟩ := hcs
    exact ⟨fun _ => ⟨rfl, rfl⟩, fun _ => Qn.zero, fun j hj => by omega⟩
  · simp at hcs
    obtain ⟨rfl, rfl, rfl⟩ := hcs
    have hlm : len ≤ m := by rw [em]; split <;> omega
    have hst : ∀ j, j < len → ∃ q : Qn, (∃ b off, a' = ⟨b, off, none⟩ ∧ W.rangeAt b (off + j * 65) q.cells) ∧ q.Ok0 ∧ Xs W q.pa q.t q.pc := fun j hj => by
      obtain ⟨cs', h1, h2⟩ := hel j (by omega)
      obtain ⟨q, ec, ho, hx⟩ := quin_open h2
      refine ⟨q, ?_, ho, hx⟩
      obtain ⟨_, hlen, hcell⟩ := World.cells?_some h1
      rw [cells27] at hlen hcell
      have hcl := ho.hr
      have h65 : q.cells.length = 65 := by rw [← ec]; omega
      obtain ⟨b, off, sp⟩ := a'
      have hsp : sp = none := by
        obtain ⟨cs0, g1, _⟩ := hel 0 (by omega)
        obtain ⟨_, glen, gcell⟩ := World.cells?_some g1
        rw [cells27] at glen gcell
        have h0 := gcell 0 (by omega)
        rw [List.getElem?_eq_getElem (by omega)] at h0
        have := World.cell?_spot h0
        simpa [Addr.add] using this
      subst hsp
      refine ⟨b, off, rfl, fun i v hv => ?_⟩
      have hi : i < q.cells.length := (List.getElem?_eq_some_iff.1 hv).1
      have hc := hcell i (by omega)
      rw [Addr.add_lit, Addr.add_lit] at hc
      rw [hc]
      rw [← ec] at hv
      rw [List.getElem?_eq_getElem (by omega)] at hv ⊢
      exact hv
    refine ⟨fun e => by simp at e, fun j => if hj : j < len then Classical.choose (hst j hj) else Qn.zero, fun j hj => ?_⟩
    simp only [dif_pos hj]
    obtain ⟨⟨b, off, e, hr⟩, ho, hx⟩ := Classical.choose_spec (hst j hj)
    exact ⟨b, off, by rw [e], hr, ho, hx⟩
end
end Go.Proofs.YbulkfhtoFmt.A
