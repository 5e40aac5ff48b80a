/-
  The accesses, plain: which operations, the first, the last and the next of an object.
-/
import Derived.Test.YbulkfhsmARank
namespace Go.Proofs.Ybulkfhsm.A

def Dat.sel (d : Dat) (i : Nat) : Bool := decide (0 ≤ d.node (d.T i)) && decide (d.K i = 1 ∨ d.K i = 2)
def Dat.cs (d : Dat) (k : Nat) : Nat := (List.range k).countP d.sel
def Dat.ix (d : Dat) (j : Nat) : Nat := ((List.range d.N).filter d.sel).getD j 0
def Dat.obj (d : Dat) (j : Nat) : Int := d.X (d.ix j)
def Dat.acc (d : Dat) (j : Nat) : List Value := [.int .i32 (d.ix j : Int), .int .i32 (d.node (d.T (d.ix j))), .int .i32 (d.X (d.ix j)), .int .u8 (d.K (d.ix j))]

theorem acc_len (d : Dat) (j : Nat) : (d.acc j).length = 4 := rfl

theorem cs_succ (d : Dat) (k : Nat) : d.cs (k + 1) = d.cs k + if d.sel k = true then 1 else 0 := by
  unfold Dat.cs
  rw [List.range_succ, List.countP_append]
  by_cases h : d.sel k = true <;> simp [h]
theorem cs_le (d : Dat) (k : Nat) : d.cs k ≤ k := by
  unfold Dat.cs
  have := List.countP_le_length (p := d.sel) (l := List.range k)
  simpa using this

theorem range_split {k n : Nat} (h : k < n) : List.range n = List.range k ++ k :: (List.range (n - k - 1)).map (· + (k + 1)) := by
  have h1 : n = k + 1 + (n - k - 1) := by omega
  conv => lhs; rw [h1, List.range_add, List.range_succ]
  simp [Nat.add_comm]

theorem ix_cs (d : Dat) {k : Nat} (hk : k < d.N) (hs : d.sel k = true) : d.ix (d.cs k) = k := by
  unfold Dat.ix Dat.cs
  rw [range_split hk, List.filter_append, List.countP_eq_length_filter]
  rw [List.getD_eq_getElem?_getD, List.getElem?_append_right (Nat.le_refl _), Nat.sub_self, List.filter_cons_of_pos hs]
  rfl

theorem ix_lt (d : Dat) {j : Nat} (hj : j < d.cs d.N) : d.ix j < d.N ∧ d.sel (d.ix j) = true := by
  unfold Dat.ix
  unfold Dat.cs at hj
  rw [List.countP_eq_length_filter] at hj
  rw [List.getD_eq_getElem?_getD, List.getElem?_eq_getElem hj]
  have := List.getElem_mem hj
  rw [List.mem_filter, List.mem_range] at this
  exact this

/-! ### first, last, next -/
def Fst (o : Nat → Int) (m : Nat) (x v : Int) : Prop := (v = -1 ∧ ∀ j, j < m → o j ≠ x) ∨ ∃ j : Nat, j < m ∧ v = (j : Int) ∧ o j = x ∧ ∀ q, q < j → o q ≠ x
def Lst (o : Nat → Int) (m : Nat) (x v : Int) : Prop := (v = -1 ∧ ∀ j, j < m → o j ≠ x) ∨ ∃ j : Nat, j < m ∧ v = (j : Int) ∧ o j = x ∧ ∀ q, j < q → q < m → o q ≠ x
def Nxt (o : Nat → Int) (m j : Nat) (v : Int) : Prop := (v = -1 ∧ ∀ q, j < q → q < m → o q ≠ o j) ∨ ∃ q : Nat, j < q ∧ q < m ∧ v = (q : Int) ∧ o q = o j ∧ ∀ r, j < r → r < q → o r ≠ o j

theorem Fst.uniq {o : Nat → Int} {m : Nat} {x v v' : Int} (h : Fst o m x v) (h' : Fst o m x v') : v = v' := by
  rcases h with ⟨rfl, h1⟩ | ⟨j, j1, rfl, j2, j3⟩
  · rcases h' with ⟨rfl, _⟩ | ⟨q, q1, rfl, q2, _⟩
    · rfl
    · exact absurd q2 (h1 q q1)
  · rcases h' with ⟨rfl, h1⟩ | ⟨q, q1, rfl, q2, q3⟩
    · exact absurd j2 (h1 j j1)
    · rcases Nat.lt_trichotomy j q with e | e | e
      · exact absurd j2 (q3 j e)
      · rw [e]
      · exact absurd q2 (j3 q e)
theorem Nxt.uniq {o : Nat → Int} {m j : Nat} {v v' : Int} (h : Nxt o m j v) (h' : Nxt o m j v') : v = v' := by
  rcases h with ⟨rfl, h1⟩ | ⟨a, a0, a1, rfl, a2, a3⟩
  · rcases h' with ⟨rfl, _⟩ | ⟨q, q0, q1, rfl, q2, _⟩
    · rfl
    · exact absurd q2 (h1 q q0 q1)
  · rcases h' with ⟨rfl, h1⟩ | ⟨q, q0, q1, rfl, q2, q3⟩
    · exact absurd a2 (h1 a a0 a1)
    · rcases Nat.lt_trichotomy a q with e | e | e
      · exact absurd a2 (q3 a a0 e)
      · rw [e]
      · exact absurd q2 (a3 q q0 e)

theorem Fst.far {o : Nat → Int} {m : Nat} {x v : Int} (h : Fst o m x v) (hx : o m ≠ x) : Fst o (m + 1) x v := by
  rcases h with ⟨rfl, h1⟩ | ⟨j, j1, rfl, j2, j3⟩
  · refine .inl ⟨rfl, fun j hj => ?_⟩
    by_cases e : j = m
    · subst e; exact hx
    · exact h1 j (by omega)
  · exact .inr ⟨j, by omega, rfl, j2, j3⟩
theorem Fst.stay {o : Nat → Int} {m : Nat} {x v : Int} (h : Fst o m x v) (hv : v ≠ -1) : Fst o (m + 1) x v := by
  rcases h with ⟨rfl, h1⟩ | ⟨j, j1, rfl, j2, j3⟩
  · exact absurd rfl hv
  · exact .inr ⟨j, by omega, rfl, j2, j3⟩
theorem Fst.new {o : Nat → Int} {m : Nat} {x : Int} (h : ∀ j, j < m → o j ≠ x) (hx : o m = x) : Fst o (m + 1) x (m : Int) := .inr ⟨m, by omega, rfl, hx, h⟩
theorem Lst.far {o : Nat → Int} {m : Nat} {x v : Int} (h : Lst o m x v) (hx : o m ≠ x) : Lst o (m + 1) x v := by
  rcases h with ⟨rfl, h1⟩ | ⟨j, j1, rfl, j2, j3⟩
  · refine .inl ⟨rfl, fun j hj => ?_⟩
    by_cases e : j = m
    · subst e; exact hx
    · exact h1 j (by omega)
  · refine .inr ⟨j, by omega, rfl, j2, fun q q1 q2 => ?_⟩
    by_cases e : q = m
    · subst e; exact hx
    · exact j3 q q1 (by omega)
theorem Lst.new {o : Nat → Int} {m : Nat} {x : Int} (hx : o m = x) : Lst o (m + 1) x (m : Int) := .inr ⟨m, by omega, rfl, hx, fun q h1 h2 => by omega⟩
theorem Lst.none {o : Nat → Int} {m : Nat} {x v : Int} (h : Lst o m x v) (hv : v < 0) : ∀ j, j < m → o j ≠ x := by
  rcases h with ⟨_, h1⟩ | ⟨j, j1, rfl, _⟩
  · exact h1
  · omega
theorem Lst.some {o : Nat → Int} {m : Nat} {x v : Int} (h : Lst o m x v) (hv : ¬ v < 0) : ∃ j : Nat, j < m ∧ v = (j : Int) ∧ o j = x ∧ ∀ q, j < q → q < m → o q ≠ x := by
  rcases h with ⟨rfl, h1⟩ | h
  · exact absurd (by decide) hv
  · exact h
theorem Nxt.far {o : Nat → Int} {m j : Nat} {v : Int} (h : Nxt o m j v) (hx : o m ≠ o j) : Nxt o (m + 1) j v := by
  rcases h with ⟨rfl, h1⟩ | ⟨a, a0, a1, rfl, a2, a3⟩
  · refine .inl ⟨rfl, fun q q1 q2 => ?_⟩
    by_cases e : q = m
    · subst e; exact hx
    · exact h1 q q1 (by omega)
  · exact .inr ⟨a, a0, by omega, rfl, a2, a3⟩
/-- One that is not the last has its next already. -/
theorem Nxt.stay {o : Nat → Int} {m j l : Nat} {v : Int} (h : Nxt o m j v) (hl : j < l) (hm : l < m) (he : o l = o j) : Nxt o (m + 1) j v := by
  rcases h with ⟨rfl, h1⟩ | ⟨a, a0, a1, rfl, a2, a3⟩
  · exact absurd he (h1 l hl hm)
  · exact .inr ⟨a, a0, by omega, rfl, a2, a3⟩
theorem Nxt.hit {o : Nat → Int} {m j : Nat} (hj : j < m) (hx : o m = o j) (hl : ∀ q, j < q → q < m → o q ≠ o j) : Nxt o (m + 1) j (m : Int) := .inr ⟨m, hj, by omega, rfl, hx, hl⟩
theorem Nxt.new (o : Nat → Int) (m : Nat) : Nxt o (m + 1) m (-1) := .inl ⟨rfl, fun q h1 h2 => by omega⟩
end Go.Proofs.Ybulkfhsm.A
