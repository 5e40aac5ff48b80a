/-
  What the law's walk needs besides: the deletion, the script, the state between the rounds.
-/
import Derived.Test.YbulkfhsmBSem
namespace Go.Proofs.Ybulkfhsm.B
open Go.RowKit

/-- 'xs = append(xs[:j], xs[j+1:]...)' on a row of the call's own, one cell an element. -/
theorem step_delete {P : Program} {ops : Array Oper} {o : Oper} {a : Act} {w : World} {K : Act → World → Prop} {Q : Exit → Act → World → Prop} {E : Prop}
    (hgd : o.guard = none) (s x : Operand) (t : TypeId) (ho : o.op = .call { callee := .builtin .append, args := #[s, x], argTypes := #[t, t] })
    (base : Nat) (e : TypeId) (i : TypeInfo) (ht : P.underlying t = some (.slice e)) (hi : P.info? e = some i) (hsize : i.size = 1)
    (g len cap j : Nat) (xs : List Value) (hj : j < len) (hown : w.ownsRow base e 1 (.slice (some ⟨g, 0, none⟩) len cap) len xs) (h1 : ∀ u ∈ xs, u.oneCell' = true)
    (hs : a.eval s = .slice (some ⟨g, 0, none⟩) j cap) (ao : Option Addr) (m c : Nat) (hx : a.eval x = .slice ao m c) (hm : m = len - (j + 1)) (hao : ao = if cap = j + 1 then some ⟨g, 0, none⟩ else some ⟨g, j + 1, none⟩)
    (h : ∀ w', w'.ownsRow base e 1 (.slice (some ⟨g, 0, none⟩) (len - 1) cap) (len - 1) (xs.eraseIdx j) → w.grownBy w' (some g) → K (a.put o.dst (.slice (some ⟨g, 0, none⟩) (j + m) cap)) w') :
    if Region.wanted o (yielded ops a.tmps) = true then Oper.wp P o a w K Q else E := by
  have hw : Region.wanted o (yielded ops a.tmps) = true := by simp [Region.wanted, hgd]
  rw [if_pos hw]
  have hl := hown.1
  rw [Nat.mul_one] at hl
  rcases hown.2 with ⟨h', _⟩ | ⟨g', cap', cur, h', hb, hg, hnc, hcm, hcs, htake⟩
  · simp at h'
  · simp only [Value.slice.injEq, Option.some.injEq, Addr.mk.injEq, and_true, true_and] at h'
    obtain ⟨rfl, rfl⟩ := h'
    rw [Nat.mul_one] at hcs htake
    obtain ⟨ad, rfl, had⟩ : ∃ ad, ao = some ad ∧ (0 < m → ad = ⟨g, j + 1, none⟩) := by
      rw [hao]
      by_cases hq : cap = j + 1
      · rw [if_pos hq]; exact ⟨_, rfl, by omega⟩
      · rw [if_neg hq]; exact ⟨_, rfl, fun _ => rfl⟩
    have hnl : (xs.drop (j + 1)).length = m * i.size := by rw [List.length_drop, hl, hm, hsize, Nat.mul_one]
    have hnews : ∀ q u, (xs.drop (j + 1))[q]? = some u → w.cell? (ad.add q) = some u := by
      intro q u hu
      have hq : q < m := by have := (List.getElem?_eq_some_iff.1 hu).1; rw [List.length_drop] at this; omega
      rw [had (by omega), Addr.add_lit, hown.cellAt _ (by omega), ← hu, List.getElem?_drop]
    have hr := run_append_room (P := P) w t o.type e i ht hi g j cap cur hg ad m c (xs.drop (j + 1)) hnl hnews (fun u hu => h1 u (List.mem_of_mem_drop hu)) (by omega)
      (by rw [hnl, hsize, hcs]; omega)
    have hK := h _ ⟨?_, .inr ⟨g, cap, _, rfl, hb, setRow_heap w g cur (cur.toList.take (j * i.size) ++ xs.drop (j + 1) ++ cur.toList.drop (j * i.size + (xs.drop (j + 1)).length)).toArray e _ hg, by omega, hcm, ?_, ?_⟩⟩
      ⟨rfl, rfl, rfl, by simp, fun k _ hk => setRow_other w g k _ (fun e => hk (by simp [e]))⟩
    · unfold Oper.wp execOp
      simp only [ho, resolve, invoke, builtin, Sem.run_bind, Sem.run_pure, Result.andThen_ok, List.map_toArray, List.map_cons, List.map_nil, hs, hx, hr]
      exact hK
    · rw [List.length_eraseIdx, hl, if_pos hj]; omega
    · simp only [List.size_toArray, List.length_append, List.length_take, List.length_drop, Array.length_toList, hsize, hcs, hl]; omega
    · have e1 : cur.toList.take (j * i.size) = xs.take j := by rw [hsize, Nat.mul_one, ← htake, List.take_take]; congr 1; omega
      have e2 : xs.eraseIdx j = xs.take j ++ xs.drop (j + 1) := List.eraseIdx_eq_take_drop_succ xs j
      rw [e2]
      simp only [e1]
      rw [Nat.mul_one]
      apply List.take_left'
      rw [List.length_append, List.length_take, List.length_drop]; omega

theorem new_any (w : World) : Calls Yba.prog 13 #[] w fun e w' => e = .returned (.agg #[.slice none 0 0, .int .i32 (-1), .int .u64 11400714819323198485]) ∧
    w' = w.alloc (.cells #[.slice none 0 0, .int .i32 (-1), .int .u64 11400714819323198485] 54) := by
  go_enter Yba.func13, Yba.ntmps13
  go_wp2
  exact bodyPost_ret (v := .agg #[.slice none 0 0, .int .i32 (-1), .int .u64 11400714819323198485]) (by simp [results, Yba.results13, go_sem]) rfl ⟨rfl, rfl⟩

structure Step where
  op : Int
  place : Int
  txn : Int
  name : Int
  excl : Bool
  set : Bool

/-- The steps of the script as they lie in memory. -/
structure Script (w : World) (a : Option Addr) (len : Nat) (A : Nat → Step) : Prop where
  some : 0 < len → ∃ b off, a = some ⟨b, off, none⟩
  c0 : ∀ b off, a = Option.some ⟨b, off, none⟩ → ∀ i, i < len → w.cell? ⟨b, off + i * 6, none⟩ = Option.some (.int .u8 (A i).op)
  c1 : ∀ b off, a = Option.some ⟨b, off, none⟩ → ∀ i, i < len → w.cell? ⟨b, off + i * 6 + 1, none⟩ = Option.some (.int .u16 (A i).place)
  c2 : ∀ b off, a = Option.some ⟨b, off, none⟩ → ∀ i, i < len → w.cell? ⟨b, off + i * 6 + 2, none⟩ = Option.some (.int .i32 (A i).txn)
  c3 : ∀ b off, a = Option.some ⟨b, off, none⟩ → ∀ i, i < len → w.cell? ⟨b, off + i * 6 + 3, none⟩ = Option.some (.int .i32 (A i).name)
  c4 : ∀ b off, a = Option.some ⟨b, off, none⟩ → ∀ i, i < len → w.cell? ⟨b, off + i * 6 + 4, none⟩ = Option.some (.bool (A i).excl)
  c5 : ∀ b off, a = Option.some ⟨b, off, none⟩ → ∀ i, i < len → w.cell? ⟨b, off + i * 6 + 5, none⟩ = Option.some (.bool (A i).set)
  op0 : ∀ i, i < len → 0 ≤ (A i).op ∧ (A i).op ≤ 255
  pl0 : ∀ i, i < len → 0 ≤ (A i).place ∧ (A i).place ≤ 65535

/-- The round's own copy of the step, which lies apart from all else. -/
structure Sb (W : World) (N base : Nat) (hdr : Value) (vp vx : Nat → Value) (op pl tx nm : Int) (ex : Bool) : Prop where
  c0 : W.cell? ⟨N, 0, none⟩ = some (.int .u8 op)
  c1 : W.cell? ⟨N, 1, none⟩ = some (.int .u16 pl)
  c2 : W.cell? ⟨N, 2, none⟩ = some (.int .i32 tx)
  c3 : W.cell? ⟨N, 3, none⟩ = some (.int .i32 nm)
  c4 : W.cell? ⟨N, 4, none⟩ = some (.bool ex)
  far : base + 5 ≤ N
  lt : N < W.heap.size
  rows : ∀ j, j < 5 → ∀ g, (rowOf hdr vp vx j).ownBlock = some g → g ≠ N

theorem row_form' {w : World} {base e n : Nat} {v : Value} {xs : List Value} (h : w.ownsRow base e 1 v n xs) : ∃ a cap, v = .slice a n cap := by
  rcases h.2 with ⟨rfl, rfl⟩ | ⟨g, cap, cur, rfl, _⟩
  · exact ⟨none, 0, rfl⟩
  · exact ⟨_, cap, rfl⟩

theorem cell_new (w : World) (c : Array Value) (t : TypeId) {b : Nat} (hb : b = w.heap.size) (i : Nat) (v : Value) (h : c[i]? = some v) : (w.alloc (.cells c t)).cell? ⟨b, i, none⟩ = some v := by
  subst hb; rw [World.cell?_alloc_new]; exact h

/-- What holds at the head of each round. -/
def Inv (w W : World) (base i : Nat) : Prop :=
  ∃ (hdr : Value) (n : Nat) (ns : Nat → Nd) (fr : Int) (t : Nat → Int) (vp vx : Nat → Value) (mp : Nat → List Int) (mx : Nat → List Bool) (l : Nat → List Nat) (fl : List Nat),
    Mem w W base hdr n ns fr t vp vx mp mx ∧ SemL n ns fr t mp mx l fl ∧ n ≤ i ∧ ∀ k, k < 2 → (mp k).length ≤ i

theorem inv_start (w : World) (c0 : Array Value) (q : Int) : Inv w (((((w.alloc (.cells c0 54)).alloc (.cells #[.slice none 0 0, .int .i32 (-1), .int .u64 q] 54)).alloc (.cells #[.int .i32 (-1), .int .i32 (-1)] 56)).alloc (.cells #[.slice none 0 0, .slice none 0 0] 58)).alloc (.cells #[.slice none 0 0, .slice none 0 0] 59)) w.heap.size 0 := by
  refine ⟨.slice none 0 0, 0, fun _ => nd0 0 0 0 false 0, -1, fun _ => -1, fun _ => .slice none 0 0, fun _ => .slice none 0 0, fun _ => [], fun _ => [], fun _ => [], [], ?_, ?_, Nat.le_refl _, fun _ _ => Nat.le_refl _⟩
  · have k2 : ∀ k, k < 2 → k = 0 ∨ k = 1 := fun k hk => by omega
    refine ⟨⟨⟨rfl, .inl ⟨rfl, rfl⟩⟩, ?_, by simp [Value.ownBlock]⟩, ?_, ⟨q, ?_⟩, ?_, ?_, ?_, fun _ _ => ⟨rfl, .inl ⟨rfl, rfl⟩⟩, fun _ _ => ⟨rfl, .inl ⟨rfl, rfl⟩⟩, ?_, ?_, by simp, ?_⟩
    · rw [World.cell?_alloc_old _ _ _ (by simp), World.cell?_alloc_old _ _ _ (by simp), World.cell?_alloc_old _ _ _ (by simp)]; exact cell_new _ _ _ (by simp) _ _ rfl
    · rw [World.cell?_alloc_old _ _ _ (by simp), World.cell?_alloc_old _ _ _ (by simp), World.cell?_alloc_old _ _ _ (by simp)]; exact cell_new _ _ _ (by simp) _ _ rfl
    · rw [World.cell?_alloc_old _ _ _ (by simp), World.cell?_alloc_old _ _ _ (by simp), World.cell?_alloc_old _ _ _ (by simp)]; exact cell_new _ _ _ (by simp) _ _ rfl
    · intro k hk
      rw [World.cell?_alloc_old _ _ _ (by simp), World.cell?_alloc_old _ _ _ (by simp)]
      rcases k2 k hk with rfl | rfl <;> exact cell_new _ _ _ (by simp) _ _ rfl
    · intro k hk
      rw [World.cell?_alloc_old _ _ _ (by simp)]
      rcases k2 k hk with rfl | rfl <;> exact cell_new _ _ _ (by simp) _ _ rfl
    · intro k hk
      rcases k2 k hk with rfl | rfl <;> exact cell_new _ _ _ (by simp) _ _ rfl
    · intro b h1 h2 o
      rw [frozen?_alloc_cells, frozen?_alloc_cells, frozen?_alloc_cells, frozen?_alloc_cells, frozen?_alloc_cells]
      have : w.heap[b]? = none := Array.getElem?_eq_none (by omega)
      simp [World.frozen?, this]
    · intro i j hi hj hij g hg
      rcases (show i = 0 ∨ i = 1 ∨ i = 2 ∨ i = 3 ∨ i = 4 by omega) with rfl | rfl | rfl | rfl | rfl <;> simp [rowOf, Value.ownBlock] at hg
    · exact (((((Below.refl _ _).alloc (Nat.le_refl _) _).alloc (by simp) _).alloc (by simp <;> omega) _).alloc (by simp <;> omega) _).alloc (by simp <;> omega) _
  · refine ⟨fun j hj => by omega, fun _ _ => ⟨0, rfl, rfl⟩, fun _ _ => List.Pairwise.nil, by simp, rfl, by simp, fun _ _ => rfl, fun _ _ => by simp, by simp⟩


theorem Sb.kept {W W' : World} {N base : Nat} {hdr hdr' : Value} {vp vx vp' vx' : Nat → Value} {op pl tx nm : Int} {ex : Bool} {X : Nat → Prop} (h : Sb W N base hdr vp vx op pl tx nm ex) (hk : Kept X W W') (hN : ¬ X N)
    (hr : ∀ j, j < 5 → ∀ g, (rowOf hdr' vp' vx' j).ownBlock = some g → g ≠ N) : Sb W' N base hdr' vp' vx' op pl tx nm ex :=
  ⟨hk.cell h.c0 hN, hk.cell h.c1 hN, hk.cell h.c2 hN, hk.cell h.c3 hN, hk.cell h.c4 hN, h.far, Nat.lt_of_lt_of_le h.lt hk.size, hr⟩
end Go.Proofs.Ybulkfhsm.B
