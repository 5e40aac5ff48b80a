/-
  slices.SortFunc as nodes calls it.
-/
import Derived.Test.YbulkfhsmARank
import Derived.Test.YbulkfhsmACmp
import Derived.Test.YbulkfhsmAShelf
namespace Go.Proofs.Ybulkfhsm.A
open Go.RowKit Go.Shelf Go.Sort

theorem heap_sorted {α : Type} [Inhabited α] (enc : α → Value) (w : World) (blk off n : Nat) (dk : Array α) (os : Array Obj) (k : Nat) (hk : k < w.heap.size) (hne : k ≠ blk) : (sortWorld enc w blk off n dk os).heap[k]? = w.heap[k]? := by
  unfold sortWorld
  rw [heap_grow_old _ _ (by simpa [putRow, mapBlock, Sort.ahead] using hk)]
  simp [putRow, mapBlock, Sort.ahead, Array.getElem?_modify, show ¬ blk = k from fun e => hne e.symm]

theorem grown_sorted {α : Type} [Inhabited α] (enc : α → Value) (w : World) (blk off n : Nat) (dk : Array α) (os : Array Obj) : w.grownBy (sortWorld enc w blk off n dk os) (some blk) :=
  ⟨rfl, rfl, rfl, by simp [sortWorld, grow, putRow, mapBlock, Sort.ahead], fun k hk hne => heap_sorted enc w blk off n dk os k hk (fun e => hne (by rw [e]))⟩

def encM (nt : Nat) (x : Nat) : Value := .int .i32 ((x % nt : Nat) : Int)
def cmpM (d : Dat) (x y : Nat) : Int := cmp3 (d.V (x % d.nt)) (d.V (y % d.nt))

theorem lt_cmpM (d : Dat) (x y : Nat) : ltOf (cmpM d) x y = decide (d.V (x % d.nt) < d.V (y % d.nt)) := by
  unfold ltOf cmpM cmp3
  by_cases h1 : d.V (x % d.nt) < d.V (y % d.nt)
  · simp [h1]
  · by_cases h2 : d.V (y % d.nt) < d.V (x % d.nt) <;> simp [h1, h2]

theorem swo_cmpM (d : Dat) : SWO (ltOf (cmpM d)) := by
  refine ⟨fun x => ?_, fun x y z h1 h2 => ?_, fun x y z h1 h2 => ?_⟩
  · rw [lt_cmpM]; simp
  · rw [lt_cmpM] at *; simp at *; omega
  · rw [lt_cmpM] at *; simp at *; omega

theorem sort_any {W : World} {d : Dat} {g s gv cv : Nat} (ok : d.Ok) (hb : Blk W g 21 (rowF (fun t => .int .i32 (t : Int)) d.nt)) (c3 : W.cell? ⟨s, 3, none⟩ = some (.slice (some ⟨gv, 0, none⟩) d.nt cv)) (hs : s ≠ g) (tv : ∀ t, t < d.nt → W.cell? ⟨gv, t, none⟩ = some (.int .i32 (d.V t))) (hv : gv ≠ g) :
    Calls Yba.prog 28 #[.slice (some ⟨g, 0, none⟩) d.nt d.nt, .func (.func 29) #[] #[.pointer (some ⟨s, 0, none⟩)]] W fun e w' => e = .returned (.tuple #[]) ∧
      ∃ p, Ord d p ∧ (∀ j, j < d.nt → w'.cell? ⟨g, j, none⟩ = some (.int .i32 (p j : Int))) ∧ W.grownBy w' (some g) := by
  have hpos := ok.pos
  have hnt := ok.hnt
  have eg : ∀ args w, (callFunc 29 args).run Yba.prog w = .ok (.enter 29 args) w := enters_of Yba.func29 (by kernel_rfl) rfl
  have hsz : (Array.range d.nt).size = d.nt := by simp
  have hget : ∀ j, j < d.nt → (Array.range d.nt)[j]! = j := fun j hj => by rw [getElem!_pos _ j (by simpa using hj)]; simp
  have hH : Holds (encM d.nt) W g 0 (Array.range d.nt) := by
    intro j hj
    rw [hsz] at hj
    refine ⟨?_, hb.frozen _⟩
    rw [Nat.zero_add, hb.at hj, hget j hj, encM, Nat.mod_eq_of_lt hj]
  have hcmp : CmpReads Yba.prog 29 #[.pointer (some ⟨s, 0, none⟩)] (encM d.nt) (cmpM d) g 0 (Array.range d.nt).size W := by
    intro m os dk hdk x y
    have hx : x % d.nt < d.nt := Nat.mod_lt _ hpos
    have hy : y % d.nt < d.nt := Nat.mod_lt _ hpos
    have kc : ∀ {a : Addr} {v : Value}, a.block ≠ g → W.cell? a = some v → (sortWorld (encM d.nt) W g 0 m dk os).cell? a = some v := fun hne hc => (World.cell?_of_block (heap_sorted _ _ _ _ _ _ _ _ (World.block_lt_of_cell? _ _ hc) hne)).trans hc
    exact closure_any (kc hs c3) hx hy (kc hv (tv _ hx)) (kc hv (tv _ hy))
  have hcon := Any.slices_SortFunc Yba.sortF (encM d.nt) (fun _ => rfl) (cmpM d) (swo_cmpM d) 29 #[.pointer (some ⟨s, 0, none⟩)] g 0 d.nt (Array.range d.nt) W eg hcmp.lays hH hb.lt (by rw [hsz]; omega)
  rw [hsz] at hcon
  change Calls Yba.prog 28 _ _ _ at hcon
  refine hcon.mono fun e w' ⟨he, d', n, os, hP, hS, hw⟩ => ?_
  have hds : d'.size = d.nt := by rw [hP.1, hsz]
  have hlist : (List.range d.nt).map (fun j => d'[j]!) = d'.toList := by
    apply List.ext_getElem?
    intro j
    by_cases hj : j < d.nt
    · have hj' : j < d'.size := by omega
      simp [hj, hj']
    · simp [hj, hds]
  have hperm : ((List.range d.nt).map (fun j => d'[j]!)).Perm (List.range d.nt) := by
    rw [hlist]
    have h1 := hP.2.2
    rw [show d'.extract 0 d.nt = d' by rw [← hds]; simp, show (Array.range d.nt).extract 0 d.nt = Array.range d.nt by simp] at h1
    simpa using h1
  have hlt : ∀ j, j < d.nt → d'[j]! < d.nt := fun j hj => by
    have : d'[j]! ∈ (List.range d.nt).map (fun j => d'[j]!) := List.mem_map.2 ⟨j, List.mem_range.2 hj, rfl⟩
    exact List.mem_range.1 (hperm.mem_iff.1 this)
  have hnd : ((List.range d.nt).map (fun j => d'[j]!)).Nodup := hperm.nodup_iff.2 List.nodup_range
  refine ⟨he, fun j => d'[j]!, ⟨hperm, fun i j hij hj => ?_⟩, fun j hj => ?_, ?_⟩
  · have h1 := hS i j (Nat.zero_le _) hij hj
    rw [lt_cmpM, Nat.mod_eq_of_lt (hlt j hj), Nat.mod_eq_of_lt (hlt i (by omega))] at h1
    simp only [decide_eq_false_iff_not, Int.not_lt] at h1
    rcases Int.lt_or_eq_of_le h1 with h2 | h2
    · exact h2
    · exfalso
      have h3 := ok.inj _ _ (hlt i (by omega)) (hlt j hj) h2
      have h4 := (List.getElem_inj (i := i) (j := j) (h₀ := by simp; omega) (h₁ := by simp; omega) hnd).1 (by simpa using h3)
      omega
  · have := (holds_sortWorld (encM d.nt) W g 0 n (Array.range d.nt) d' os hb.lt hH (by rw [hds, hsz]) j (by omega)).1
    rw [Nat.zero_add, encM, Nat.mod_eq_of_lt (hlt j hj)] at this
    rw [hw]
    exact this
  · rw [hw]; exact grown_sorted _ _ _ _ _ _ _
end Go.Proofs.Ybulkfhsm.A
