/-
  What the law needs besides the walks: the copy of the history, the sorted insertion, plain.
-/
import Derived.Test.YbulkfhsmCTrans
namespace Go.Proofs.Ybulkfhsm.C
open Go.RowKit Go.Maps

/-! ### the copy of the history -/
def Opn.cells (x : Opn) : List Value := [.int .u8 x.kind, .int .i32 x.txn, .string x.obj]

def flat3 (A : Nat → Opn) : Nat → List Value
  | 0 => []
  | n + 1 => flat3 A n ++ (A n).cells

theorem flat3_len (A : Nat → Opn) (n : Nat) : (flat3 A n).length = n * 3 := by
  induction n with
  | zero => rfl
  | succ n ih => simp [flat3, ih, Opn.cells]; omega

theorem flat3_get (A : Nat → Opn) {n i k : Nat} (hi : i < n) (hk : k < 3) : (flat3 A n)[i * 3 + k]? = (A i).cells[k]? := by
  induction n with
  | zero => omega
  | succ n ih =>
    simp only [flat3]
    by_cases h : i < n
    · rw [List.getElem?_append_left (by rw [flat3_len]; omega)]; exact ih h
    · obtain rfl : i = n := by omega
      rw [List.getElem?_append_right (by rw [flat3_len]; omega), flat3_len]
      congr 1; omega

theorem flat3_one (A : Nat → Opn) (n : Nat) : ∀ v ∈ flat3 A n, v.oneCell' = true := by
  induction n with
  | zero => simp [flat3]
  | succ n ih =>
    intro v hv
    simp only [flat3, List.mem_append] at hv
    rcases hv with hv | hv
    · exact ih v hv
    · simp only [Opn.cells, List.mem_cons, List.not_mem_nil, or_false] at hv
      rcases hv with rfl | rfl | rfl <;> rfl

theorem Hist.src {w : World} {b off len : Nat} {A : Nat → Opn} (h : Hist w (some ⟨b, off, none⟩) len A) : ∀ j v, (flat3 A len)[j]? = some v → w.cell? ((⟨b, off, none⟩ : Addr).add j) = some v := by
  intro j v hv
  have hj : j < len * 3 := by
    have := (List.getElem?_eq_some_iff.1 hv).1
    rw [flat3_len] at this
    exact this
  rw [Addr.add_lit]
  obtain ⟨i, k, rfl, hk⟩ : ∃ i k, j = i * 3 + k ∧ k < 3 := ⟨j / 3, j % 3, by omega, by omega⟩
  have hi : i < len := by omega
  rw [flat3_get A hi hk] at hv
  match k, hk with
  | 0, _ => simp [Opn.cells] at hv; subst hv; exact h.ck b off rfl i hi
  | 1, _ => simp [Opn.cells] at hv; subst hv; exact h.ct b off rfl i hi
  | 2, _ => simp [Opn.cells] at hv; subst hv; exact h.co b off rfl i hi

theorem hist_of_row {w w0 : World} {g len : Nat} {a : Option Addr} {A : Nat → Opn} (h0 : Hist w0 a len A) (h : w.heap[g]? = some (.cells (flat3 A len).toArray 32 (0, 0))) : Hist w (some ⟨g, 0, none⟩) len A := by
  have key : ∀ i k, i < len → k < 3 → w.cell? ⟨g, i * 3 + k, none⟩ = (A i).cells[k]? := fun i k hi hk => by
    rw [cell_of_row w g (i * 3 + k) _ 32 (0, 0) h]
    simpa using flat3_get A hi hk
  refine ⟨fun _ => ⟨g, 0, rfl⟩, fun b off e i hi => ?_, fun b off e i hi => ?_, fun b off e i hi => ?_, h0.wf⟩
  · cases e; simpa [Opn.cells] using key i 0 hi (by omega)
  · cases e; simpa [Opn.cells] using key i 1 hi (by omega)
  · cases e; simpa [Opn.cells] using key i 2 hi (by omega)

theorem size32 : (Yba.prog.info? 32).map (·.size) = some 3 := by kernel_rfl
theorem info32 : (Yba.prog.info? 32).map (fun i => (i.zero, i.size, i.bytes)) = some (some (.agg #[.int .u8 0, .int .i32 0, .string ByteArray.empty]), 3, 24) := by kernel_rfl

theorem run_copy_hist (w : World) (ty : TypeId) {a : Option Addr} {g len cap : Nat} {A : Nat → Opn} {cur : Array Value} (hH : Hist w a len A) (hg : w.heap[g]? = some (.cells cur 32 (0, 0))) (hs : cur.size = len * 3) :
    ∃ w', (Builtin.copy_ #[27, 27] ty #[.slice (some ⟨g, 0, none⟩) len len, .slice a len cap]).run Yba.prog w = .ok (goInt len) w' ∧ w'.heap[g]? = some (.cells (flat3 A len).toArray 32 (0, 0)) ∧ Below g w w' := by
  obtain ⟨i, hq, hi⟩ := Option.map_eq_some_iff.1 size32
  by_cases h0 : 0 < len
  · obtain ⟨b, off, rfl⟩ := hH.form h0
    refine ⟨w.setRow g (flat3 A len).toArray, ?_, setRow_heap w g _ _ 32 _ hg, below_setRow (Below.refl _ _) (Nat.le_refl _) _⟩
    have hl := run_loadCells_list (P := Yba.prog) w ⟨b, off, none⟩ (flat3 A len) hH.src
    rw [flat3_len] at hl
    have hst := run_storeCells_at Yba.prog g 0 32 (flat3 A len) 0 cur w hg (by simp [flat3_len, hs]) (flat3_one A len)
    simp only [Nat.add_zero, List.take_zero, List.nil_append, Nat.zero_add, flat3_len] at hst
    rw [List.drop_of_length_le (by simp [hs]), List.append_nil] at hst
    simp [Builtin.copy_, run_underlying Yba.underlying27, Builtin.lenOf, Builtin.firstCells, sizeOf, typeInfo, hq, hi, hl, hst]
  · obtain rfl : len = 0 := by omega
    have hc : cur = #[] := by
      apply Array.eq_empty_of_size_eq_zero
      omega
    subst hc
    refine ⟨w, ?_, by simpa [flat3] using hg, Below.refl _ _⟩
    have hl : ∀ (x : Addr), (loadCells x 0).run Yba.prog w = .ok #[] w := fun x => by simpa using run_loadCells_list (P := Yba.prog) w x [] (by simp)
    cases a <;> simp [Builtin.copy_, run_underlying Yba.underlying27, Builtin.lenOf, Builtin.firstCells, sizeOf, typeInfo, hq, storeCells, hl]

theorem wpList_copy_hist {w : World} {ops : Array Oper} {rest : List Oper} {o : Oper} {a : Act} {Q : Exit → Act → World → Prop} (hgd : o.guard = none) (d s : Operand)
    (ho : o.op = .call { callee := .builtin .copy, args := #[d, s], argTypes := #[27, 27] }) (p : Option Addr) (g len cap : Nat) (A : Nat → Opn) (cur : Array Value) (hd : a.eval d = .slice (some ⟨g, 0, none⟩) len len) (hs : a.eval s = .slice p len cap)
    (hH : Hist w p len A) (hg : w.heap[g]? = some (.cells cur 32 (0, 0))) (hc : cur.size = len * 3)
    (h : ∀ w', w'.heap[g]? = some (.cells (flat3 A len).toArray 32 (0, 0)) → Below g w w' → wpList Yba.prog ops Q rest (a.put o.dst (goInt len)) w') : wpList Yba.prog ops Q (o :: rest) a w := by
  refine wpList_plain hgd fun K hK => ?_
  obtain ⟨w', hrun, h1, h2⟩ := run_copy_hist w o.type (cap := cap) hH hg hc
  unfold Oper.wp
  simp [execOp, ho, resolve, invoke, builtin, hd, hs, hrun, Result.andThen]
  exact hK _ _ (h w' h1 h2)

/-! ### the sorted list, plain -/
def Asc (d : Nat → Int) (m : Nat) : Prop := ∀ i j, i < j → j < m → d i < d j
def Wants (A : Nat → Opn) (i : Nat) (d : Nat → Int) (m : Nat) : Prop := Asc d m ∧ (∀ x, (∃ p, p < m ∧ d p = x) ↔ ∃ j, j < i ∧ (A j).txn = x) ∧ m ≤ i

theorem wants_start (A : Nat → Opn) : Wants A 0 (fun _ => 0) 0 := ⟨fun i j _ h => by omega, fun x => by simp, by omega⟩

theorem upto_succ {A : Nat → Opn} {i : Nat} {x : Int} : (∃ j, j < i + 1 ∧ (A j).txn = x) ↔ (∃ j, j < i ∧ (A j).txn = x) ∨ (A i).txn = x := by
  constructor
  · rintro ⟨j, h1, h2⟩
    by_cases hj : j < i
    · exact .inl ⟨j, hj, h2⟩
    · obtain rfl : j = i := by omega
      exact .inr h2
  · rintro (⟨j, h1, h2⟩ | h2)
    · exact ⟨j, by omega, h2⟩
    · exact ⟨i, by omega, h2⟩

theorem wants_skip {A : Nat → Opn} {i m p : Nat} {d : Nat → Int} (h : Wants A i d m) (hp : p < m) (he : d p = (A i).txn) : Wants A (i + 1) d m := by
  refine ⟨h.1, fun x => ?_, by have := h.2.2; omega⟩
  rw [upto_succ, ← h.2.1 x]
  constructor
  · exact .inl
  · rintro (h1 | rfl)
    · exact h1
    · exact ⟨p, hp, he⟩

def insr (d : Nat → Int) (p : Nat) (x : Int) : Nat → Int := fun q => if q < p then d q else if q = p then x else d (q - 1)

theorem wants_ins {A : Nat → Opn} {i m p : Nat} {d : Nat → Int} (h : Wants A i d m) (hp : p ≤ m) (h1 : ∀ q, q < p → d q < (A i).txn) (h2 : p < m → (A i).txn < d p) : Wants A (i + 1) (insr d p (A i).txn) (m + 1) := by
  obtain ⟨ha, hm, hle⟩ := h
  have h3 : ∀ q, p ≤ q → q < m → (A i).txn < d q := fun q q1 q2 => by
    by_cases e : q = p
    · subst e; exact h2 q2
    · have := ha p q (by omega) q2; have := h2 (by omega); omega
  refine ⟨fun q r hqr hr => ?_, fun x => ?_, by omega⟩
  · unfold insr
    by_cases q1 : q < p
    · rw [if_pos q1]
      by_cases r1 : r < p
      · rw [if_pos r1]; exact ha q r hqr (by omega)
      · rw [if_neg r1]
        by_cases r2 : r = p
        · rw [if_pos r2]; exact h1 q q1
        · rw [if_neg r2]; exact ha q (r - 1) (by omega) (by omega)
    · rw [if_neg q1, if_neg (by omega : ¬ r < p), if_neg (by omega : ¬ r = p)]
      by_cases q2 : q = p
      · rw [if_pos q2]; exact h3 (r - 1) (by omega) (by omega)
      · rw [if_neg q2]; exact ha (q - 1) (r - 1) (by omega) (by omega)
  · rw [upto_succ, ← hm x]
    constructor
    · rintro ⟨q, q1, q2⟩
      unfold insr at q2
      by_cases e1 : q < p
      · rw [if_pos e1] at q2; exact .inl ⟨q, by omega, q2⟩
      · rw [if_neg e1] at q2
        by_cases e2 : q = p
        · rw [if_pos e2] at q2; exact .inr q2
        · rw [if_neg e2] at q2; exact .inl ⟨q - 1, by omega, q2⟩
    · rintro (⟨q, q1, q2⟩ | q2)
      · by_cases e1 : q < p
        · exact ⟨q, by omega, by unfold insr; rw [if_pos e1]; exact q2⟩
        · exact ⟨q + 1, by omega, by unfold insr; rw [if_neg (by omega), if_neg (by omega)]; exact q2⟩
      · exact ⟨p, by omega, by unfold insr; rw [if_neg (by omega), if_pos rfl]; exact q2⟩

theorem asc_half {d e : Nat → Int} {m n : Nat} (hd : Asc d m) (he : Asc e n) (hme : ∀ x, (∃ p, p < m ∧ d p = x) ↔ ∃ p, p < n ∧ e p = x) : ∀ i, i < m → i < n ∧ d i = e i := by
  intro i
  induction i using Nat.strongRecOn with
  | _ i ih =>
    intro hi
    obtain ⟨p, p1, p2⟩ := (hme (d i)).1 ⟨i, hi, rfl⟩
    have hpi : i ≤ p := by
      rcases Nat.lt_or_ge p i with h | h
      · have h1 := (ih p h (by omega)).2
        have := hd p i h hi
        omega
      · exact h
    have hin : i < n := by omega
    obtain ⟨q, q1, q2⟩ := (hme (e i)).2 ⟨i, hin, rfl⟩
    have hqi : i ≤ q := by
      rcases Nat.lt_or_ge q i with h | h
      · have h1 := (ih q h q1).2
        have := he q i h hin
        omega
      · exact h
    have a1 : e i ≤ e p := by
      rcases Nat.lt_or_eq_of_le hpi with h | h
      · exact Int.le_of_lt (he i p h p1)
      · rw [h]; exact Int.le_refl _
    have a2 : d i ≤ d q := by
      rcases Nat.lt_or_eq_of_le hqi with h | h
      · exact Int.le_of_lt (hd i q h q1)
      · rw [h]; exact Int.le_refl _
    exact ⟨hin, by omega⟩

theorem asc_same {d e : Nat → Int} {m n : Nat} (hd : Asc d m) (he : Asc e n) (hme : ∀ x, (∃ p, p < m ∧ d p = x) ↔ ∃ p, p < n ∧ e p = x) : m = n ∧ ∀ i, i < m → d i = e i := by
  have h1 := asc_half hd he hme
  have h2 := asc_half he hd (fun x => (hme x).symm)
  refine ⟨?_, fun i hi => (h1 i hi).2⟩
  rcases Nat.lt_trichotomy m n with h | h | h
  · have := (h2 m h).1; omega
  · exact h
  · have := (h1 n h).1; omega

/-! ### the row of the model's list beside the loop's variable -/
/-- The model's list at wh; the loop's variable in block N. -/
structure Wt (w2 W : World) (B N : Nat) (wh : Value) (m : Nat) (d : Nat → Int) (o : Opn) : Prop where
  own : W.ownsRow B 25 1 wh m (rowL d m)
  bel : Below B w2 W
  var : W.heap[N]? = some (.cells o.cells.toArray 32 (0, 0))
  hB : B ≤ N

section
variable {w2 W : World} {B N m : Nat} {wh : Value} {d : Nat → Int} {o : Opn}
theorem Wt.ne (h : Wt w2 W B N wh m d o) : some N ≠ wh.ownBlock := by
  intro e
  rcases h.own.2 with ⟨rfl, _⟩ | ⟨g, cap, cur, rfl, hl, hh, _⟩
  · simp [Value.ownBlock] at e
  · simp only [Value.ownBlock, Option.some.injEq] at e
    subst e
    rw [h.var] at hh
    simp at hh
theorem Wt.drewN (h : Wt w2 W B N wh m d o) (k : Nat) : Wt w2 (W.drewN k) B N wh m d o := ⟨h.own, ⟨h.bel.os, h.bel.tape, h.bel.output, h.bel.size, h.bel.block⟩, h.var, h.hB⟩
theorem Wt.txn (h : Wt w2 W B N wh m d o) : W.cell? ⟨N, 1, none⟩ = some (.int .i32 o.txn) := by
  rw [cell_of_row W N 1 _ 32 (0, 0) h.var]; rfl
theorem Wt.lt (h : Wt w2 W B N wh m d o) : N < W.heap.size := (Array.getElem?_eq_some_iff.1 h.var).1
theorem Wt.cell {g cap : Nat} (h : Wt w2 W B N (.slice (some ⟨g, 0, none⟩) m cap) m d o) {i : Nat} (hi : i < m) : W.cell? ⟨g, i, none⟩ = some (.int .i32 (d i)) := by
  rw [World.ownsRow.cellAt h.own i (by omega), rowL_get d hi]
theorem Wt.store {g cap : Nat} (h : Wt w2 W B N (.slice (some ⟨g, 0, none⟩) m cap) m d o) {i : Nat} (hi : i < m) (x : Int) : Wt w2 (W.setCell ⟨g, i, none⟩ (.int .i32 x)) B N (.slice (some ⟨g, 0, none⟩) m cap) m (put d i x) o := by
  obtain ⟨h1, h2⟩ := World.ownsRow.stored h.own i (.int .i32 x)
  rw [rowL_set d x hi] at h1
  have hg := h.own.lt g rfl
  exact ⟨h1, h.bel.setCell hg.1 _, (h2.block N h.lt h.ne).trans h.var, h.hB⟩
theorem Wt.append {W' : World} {g cap : Nat} {tmp : Obj} (h : Wt w2 W B N wh m d o) (hown : W'.ownsRow B 25 1 (.slice (some ⟨g, 0, none⟩) (m + 1) cap) (m + 1) (rowL d m ++ [.int .i32 0])) (hg : (W.alloc tmp).grownBy W' wh.ownBlock) :
    Wt w2 W' B N (.slice (some ⟨g, 0, none⟩) (m + 1) cap) (m + 1) (put d m 0) o := by
  have hs := h.lt
  have hB := h.hB
  have e : rowL (put d m 0) (m + 1) = rowL d m ++ [.int .i32 0] := by
    simp only [rowL, put_same]
    rw [rowL_congr (d' := d) (fun j hj => put_other d 0 (by omega))]
  refine ⟨by rw [e]; exact hown, ?_, ?_, hB⟩
  · exact Below.grown (h.bel.alloc (by omega) _) hg (by simp only [World.size_alloc]; omega) (fun k e => (h.own.lt k e).1)
  · exact (hg.block N (by simp only [World.size_alloc]; omega) h.ne).trans ((Below.heap_alloc _ _ _ hs).trans h.var)
end

/-- The shift: down to j. -/
def Shift (d : Nat → Int) (m j : Nat) (f : Nat → Int) : Prop := (∀ q, q < m → q ≤ j → f q = d q) ∧ ∀ q, j < q → q ≤ m → f q = d (q - 1)

theorem shift_start (d : Nat → Int) (m : Nat) : Shift d m m (put d m 0) := ⟨fun q h1 _ => put_other d 0 (by omega), fun q h1 h2 => by omega⟩
theorem shift_step {d f : Nat → Int} {m j : Nat} (h : Shift d m (j + 1) f) (hj : j + 1 ≤ m) : Shift d m j (put f (j + 1) (f j)) := by
  refine ⟨fun q h1 h2 => ?_, fun q h1 h2 => ?_⟩
  · rw [put_other f _ (by omega)]; exact h.1 q h1 (by omega)
  · by_cases e : q = j + 1
    · subst e; rw [put_same]; simp only [Nat.add_sub_cancel]; exact h.1 j (by omega) (by omega)
    · rw [put_other f _ e]; exact h.2 q (by omega) h2
theorem shift_done {d f : Nat → Int} {m p : Nat} (h : Shift d m p f) (hp : p ≤ m) (x : Int) : rowL (put f p x) (m + 1) = rowL (insr d p x) (m + 1) := by
  refine rowL_congr fun q hq => ?_
  unfold insr
  by_cases e1 : q < p
  · rw [if_pos e1, put_other f _ (by omega)]; exact h.1 q (by omega) (by omega)
  · rw [if_neg e1]
    by_cases e2 : q = p
    · subst e2; rw [if_pos rfl, put_same]
    · rw [if_neg e2, put_other f _ e2]; exact h.2 q (by omega) (by omega)
end Go.Proofs.Ybulkfhsm.C
