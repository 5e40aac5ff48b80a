/-
  The numbers of the nodes, plain.
-/
import Derived.Test.YbulkfhsmAKit
namespace Go.Proofs.Ybulkfhsm.A

theorem countP_range_lt (a : Nat → Bool) (q : Nat) : ∀ n, (List.range n).countP (fun j => a j && decide (j < q)) = (List.range (min n q)).countP a
  | 0 => by simp
  | n + 1 => by
    rw [List.range_succ, List.countP_append, countP_range_lt a q n]
    by_cases h : n < q
    · rw [show min (n + 1) q = n + 1 by omega, show min n q = n by omega, List.range_succ, List.countP_append]
      simp [h]
    · rw [show min (n + 1) q = min n q by omega]
      simp [h]

theorem countP_congr_range {a b : Nat → Bool} {n : Nat} (h : ∀ j, j < n → a j = b j) : (List.range n).countP a = (List.range n).countP b := by
  apply List.countP_congr
  intro j hj
  rw [h j (List.mem_range.1 hj)]

def Dat.left (d : Dat) (t : Nat) : Bool := d.ab d.N t
def Dat.rank (d : Dat) (t : Nat) : Nat := (List.range d.nt).countP fun u => !d.left u && decide (d.V u < d.V t)
def Dat.total (d : Dat) : Nat := (List.range d.nt).countP fun u => !d.left u
def Dat.node (d : Dat) (t : Nat) : Int := if d.left t = true then -1 else (d.rank t : Int)

/-- p lists the transactions by their values. -/
structure Ord (d : Dat) (p : Nat → Nat) : Prop where
  perm : ((List.range d.nt).map p).Perm (List.range d.nt)
  asc : ∀ i j, i < j → j < d.nt → d.V (p i) < d.V (p j)

def Dat.pos (d : Dat) (p : Nat → Nat) (j : Nat) : Nat := (List.range j).countP fun q => !d.left (p q)

section
variable {d : Dat} {p : Nat → Nat}
theorem Ord.lt (h : Ord d p) {j : Nat} (hj : j < d.nt) : p j < d.nt := by
  have : p j ∈ (List.range d.nt).map p := List.mem_map.2 ⟨j, List.mem_range.2 hj, rfl⟩
  exact List.mem_range.1 (h.perm.mem_iff.1 this)
theorem Ord.sur (h : Ord d p) {t : Nat} (ht : t < d.nt) : ∃ j, j < d.nt ∧ p j = t := by
  have : t ∈ (List.range d.nt).map p := h.perm.mem_iff.2 (List.mem_range.2 ht)
  obtain ⟨j, h1, h2⟩ := List.mem_map.1 this
  exact ⟨j, List.mem_range.1 h1, h2⟩
theorem Ord.inj (h : Ord d p) {i j : Nat} (hi : i < d.nt) (hj : j < d.nt) (e : p i = p j) : i = j := by
  rcases Nat.lt_trichotomy i j with h1 | h1 | h1
  · have := h.asc i j h1 hj; rw [e] at this; omega
  · exact h1
  · have := h.asc j i h1 hi; rw [e] at this; omega
theorem Ord.lt_iff (h : Ord d p) {i j : Nat} (hi : i < d.nt) (hj : j < d.nt) : d.V (p i) < d.V (p j) ↔ i < j := by
  constructor
  · intro hv
    rcases Nat.lt_trichotomy i j with h1 | h1 | h1
    · exact h1
    · subst h1; omega
    · have := h.asc j i h1 hi; omega
  · exact fun hij => h.asc i j hij hj

theorem Ord.rank (h : Ord d p) {q : Nat} (hq : q < d.nt) : d.rank (p q) = d.pos p q := by
  unfold Dat.rank Dat.pos
  rw [← h.perm.countP_eq, List.countP_map]
  rw [countP_congr_range (b := fun j => (!d.left (p j)) && decide (j < q)) (fun j hj => by
    simp only [Function.comp]
    rw [show decide (d.V (p j) < d.V (p q)) = decide (j < q) from by simp [h.lt_iff hj hq]])]
  rw [countP_range_lt, show min d.nt q = q by omega]

theorem Ord.total (h : Ord d p) : d.total = d.pos p d.nt := by
  unfold Dat.total Dat.pos
  rw [← h.perm.countP_eq, List.countP_map]
  rfl

theorem pos_succ (d : Dat) (p : Nat → Nat) (j : Nat) : d.pos p (j + 1) = d.pos p j + if d.left (p j) = true then 0 else 1 := by
  unfold Dat.pos
  rw [List.range_succ, List.countP_append]
  by_cases h : d.left (p j) = true
  · simp [h]
  · simp [h]
theorem pos_mono (d : Dat) (p : Nat → Nat) {i j : Nat} (h : i ≤ j) : d.pos p i ≤ d.pos p j := by
  induction j with
  | zero => rw [show i = 0 by omega]; exact Nat.le_refl _
  | succ j ih =>
    by_cases e : i = j + 1
    · rw [e]; exact Nat.le_refl _
    · have := ih (by omega)
      rw [pos_succ]; omega
theorem pos_strict (d : Dat) (p : Nat → Nat) {i j : Nat} (h : i < j) (hl : d.left (p i) = false) : d.pos p i < d.pos p j := by
  have h1 := pos_succ d p i
  have h2 := pos_mono d p (show i + 1 ≤ j from h)
  simp [hl] at h1
  omega
theorem pos_le (d : Dat) (p : Nat → Nat) (j : Nat) : d.pos p j ≤ j := by
  unfold Dat.pos
  have := List.countP_le_length (p := fun q => !d.left (p q)) (l := List.range j)
  simpa using this
theorem pos_hit (d : Dat) (p : Nat → Nat) {i n : Nat} (h : i < d.pos p n) : ∃ q, q < n ∧ d.left (p q) = false ∧ d.pos p q = i := by
  induction n with
  | zero => simp [Dat.pos] at h
  | succ n ih =>
    by_cases h1 : i < d.pos p n
    · obtain ⟨q, q1, q2, q3⟩ := ih h1
      exact ⟨q, by omega, q2, q3⟩
    · rw [pos_succ] at h
      by_cases h2 : d.left (p n) = true
      · simp [h2] at h; omega
      · simp [h2] at h
        exact ⟨n, by omega, by simpa using h2, by omega⟩

theorem Ord.rank_lt (h : Ord d p) {t : Nat} (ht : t < d.nt) (hl : d.left t = false) : d.rank t < d.total := by
  obtain ⟨q, hq, rfl⟩ := h.sur ht
  rw [h.rank hq, h.total]
  exact pos_strict d p hq hl
theorem Ord.rank_inj (h : Ord d p) {s t : Nat} (hs : s < d.nt) (ht : t < d.nt) (ls : d.left s = false) (lt : d.left t = false) (e : d.rank s = d.rank t) : s = t := by
  obtain ⟨q, hq, rfl⟩ := h.sur hs
  obtain ⟨r, hr, rfl⟩ := h.sur ht
  rw [h.rank hq, h.rank hr] at e
  rcases Nat.lt_trichotomy q r with h1 | h1 | h1
  · have := pos_strict d p h1 ls; omega
  · rw [h1]
  · have := pos_strict d p h1 lt; omega
theorem Ord.hit (h : Ord d p) {i : Nat} (hi : i < d.total) : ∃ t, t < d.nt ∧ d.left t = false ∧ d.rank t = i := by
  rw [h.total] at hi
  obtain ⟨q, q1, q2, q3⟩ := pos_hit d p hi
  exact ⟨p q, h.lt q1, q2, by rw [h.rank q1]; exact q3⟩
end
theorem total_le (d : Dat) : d.total ≤ d.nt := by
  unfold Dat.total
  have := List.countP_le_length (p := fun u => !d.left u) (l := List.range d.nt)
  simpa using this
theorem rank_le (d : Dat) (t : Nat) : d.rank t ≤ d.nt := by
  unfold Dat.rank
  have := List.countP_le_length (p := fun u => !d.left u && decide (d.V u < d.V t)) (l := List.range d.nt)
  simpa using this
end Go.Proofs.Ybulkfhsm.A
