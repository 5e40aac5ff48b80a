/-
  A row of transactions that the call owns, told by a plain function; what swaps do to it; the comparison.
-/
import Derived.Test.YbulkfhsmProg
import Derived.WalkKit
import Derived.WalkSpells
import Derived.Deep.QuietTactic
import Derived.BigQuiet
import Derived.Deep.DrawnRows
import Derived.Deep.CutRange
import Derived.Deep.CutBlock
namespace Go.Proofs.Ybulkfhsm.C
open Go.RowKit

theorem hide {p : Prop} (h : p) : Hid p := h

def put (d : Nat → Int) (i : Nat) (x : Int) : Nat → Int := fun j => if j = i then x else d j
def swp (d : Nat → Int) (i j : Nat) : Nat → Int := put (put d i (d j)) j (d i)

theorem put_same (d : Nat → Int) (i : Nat) (x : Int) : put d i x i = x := by simp [put]
theorem put_other (d : Nat → Int) {i j : Nat} (x : Int) (h : j ≠ i) : put d i x j = d j := by simp [put, h]
theorem swp_left (d : Nat → Int) (i j : Nat) : swp d i j i = d j := by
  unfold swp put; by_cases h : i = j <;> simp [h]
theorem swp_right (d : Nat → Int) (i j : Nat) : swp d i j j = d i := by simp [swp, put]
theorem swp_other (d : Nat → Int) {i j k : Nat} (h1 : k ≠ i) (h2 : k ≠ j) : swp d i j k = d k := by simp [swp, put, h1, h2]

def rowL (d : Nat → Int) : Nat → List Value
  | 0 => []
  | n + 1 => rowL d n ++ [.int .i32 (d n)]

theorem rowL_len (d : Nat → Int) (n : Nat) : (rowL d n).length = n := by
  induction n with
  | zero => rfl
  | succ n ih => simp [rowL, ih]

theorem rowL_get (d : Nat → Int) {n i : Nat} (hi : i < n) : (rowL d n)[i]? = some (.int .i32 (d i)) := by
  induction n with
  | zero => omega
  | succ n ih =>
    simp only [rowL]
    by_cases h : i < n
    · rw [List.getElem?_append_left (by rw [rowL_len]; exact h)]; exact ih h
    · obtain rfl : i = n := by omega
      rw [List.getElem?_append_right (by rw [rowL_len]; omega), rowL_len]; simp

theorem rowL_congr {d d' : Nat → Int} {n : Nat} (h : ∀ j, j < n → d j = d' j) : rowL d n = rowL d' n := by
  induction n with
  | zero => rfl
  | succ n ih => simp only [rowL]; rw [ih (fun j hj => h j (by omega)), h n (by omega)]

theorem rowL_set (d : Nat → Int) {n i : Nat} (x : Int) (hi : i < n) : (rowL d n).set i (.int .i32 x) = rowL (put d i x) n := by
  induction n with
  | zero => omega
  | succ n ih =>
    simp only [rowL]
    by_cases h : i < n
    · rw [List.set_append_left _ _ (by rw [rowL_len]; exact h), ih h, put_other _ _ (by omega)]
    · obtain rfl : i = n := by omega
      rw [List.set_append_right _ _ (by rw [rowL_len]; omega), rowL_len, put_same]
      congr 1
      · exact rowL_congr fun j hj => (put_other _ _ (by omega)).symm
      · simp

/-- The row: block g, n elements, capacity cap. -/
def Rw (w : World) (base g n cap : Nat) (d : Nat → Int) : Prop := w.ownsRow base 25 1 (.slice (some ⟨g, 0, none⟩) n cap) n (rowL d n)

section
variable {w : World} {base g n cap : Nat} {d : Nat → Int}
theorem Rw.cell (h : Rw w base g n cap d) {i : Nat} (hi : i < n) : w.cell? ⟨g, i, none⟩ = some (.int .i32 (d i)) := by
  rw [World.ownsRow.cellAt h i (by omega), rowL_get d hi]
theorem Rw.frozen (h : Rw w base g n cap d) (j : Nat) : w.frozen? ⟨g, j, none⟩ = false := World.ownsRow.frozenAt h j
theorem Rw.store (h : Rw w base g n cap d) {i : Nat} (hi : i < n) (x : Int) : Rw (w.setCell ⟨g, i, none⟩ (.int .i32 x)) base g n cap (put d i x) ∧ w.grownBy (w.setCell ⟨g, i, none⟩ (.int .i32 x)) (some g) := by
  obtain ⟨h1, h2⟩ := World.ownsRow.stored h i (.int .i32 x)
  rw [rowL_set d x hi] at h1
  exact ⟨h1, h2⟩
theorem Rw.drewN (h : Rw w base g n cap d) (k : Nat) : Rw (w.drewN k) base g n cap d := h
theorem Rw.drew (h : Rw w base g n cap d) : Rw w.drew base g n cap d := h
/-- The cell that an exchange writes second, behind its first store: whether the two are one or not. -/
theorem Rw.second (h : Rw w base g n cap d) {i j : Nat} (hi : i < n) (hj : j < n) : (w.setCell ⟨g, i, none⟩ (.int .i32 (d j))).cell? ⟨g, j, none⟩ = some (.int .i32 (d j)) := by
  rw [(h.store hi (d j)).1.cell hj]
  by_cases e : j = i
  · subst e; rw [put_same]
  · rw [put_other _ _ e]
end

theorem grown_trans {a b c : World} {row : Option Nat} (h : a.grownBy b row) (k : b.grownBy c row) : a.grownBy c row :=
  ⟨k.os.trans h.os, k.tape.trans h.tape, k.output.trans h.output, Nat.le_trans h.size k.size, fun i hi hr => (k.block i (Nat.lt_of_lt_of_le hi h.size) hr).trans (h.block i hi hr)⟩
theorem grown_drewN {w W : World} {row : Option Nat} (hg : w.grownBy W row) (k : Nat) : w.grownBy (W.drewN k) row := ⟨hg.os, hg.tape, hg.output, hg.size, hg.block⟩

/-- The row holds d now; nothing but it has turned. -/
def Now (w W : World) (base g n cap : Nat) (d : Nat → Int) : Prop := Rw W base g n cap d ∧ w.grownBy W (some g)

theorem Now.start {w : World} {base g n cap : Nat} {d : Nat → Int} (h : Rw w base g n cap d) : Now w w base g n cap d := ⟨h, World.grownBy.refl _ _⟩
theorem Now.drewN {w W : World} {base g n cap : Nat} {d : Nat → Int} (h : Now w W base g n cap d) (k : Nat) : Now w (W.drewN k) base g n cap d := ⟨h.1, grown_drewN h.2 k⟩
theorem Now.trans {w W W' : World} {base g n cap : Nat} {d d' : Nat → Int} (h : Now w W base g n cap d) (k : Now W W' base g n cap d') : Now w W' base g n cap d' := ⟨k.1, grown_trans h.2 k.2⟩
theorem Now.swap {w W : World} {base g n cap : Nat} {d : Nat → Int} (h : Now w W base g n cap d) {i j : Nat} (hi : i < n) (hj : j < n) :
    Now w ((W.setCell ⟨g, i, none⟩ (.int .i32 (d j))).setCell ⟨g, j, none⟩ (.int .i32 (d i))) base g n cap (swp d i j) := by
  obtain ⟨p1, q1⟩ := h.1.store hi (d j)
  obtain ⟨p2, q2⟩ := p1.store hj (d i)
  exact ⟨p2, grown_trans h.2 (grown_trans q1 q2)⟩

/-! ### what swaps inside [a, b) may do -/
def Swaps (a b : Nat) (d d' : Nat → Int) : Prop := ∀ R : (Nat → Int) → Prop, R d → (∀ e i j, a ≤ i → i < b → a ≤ j → j < b → R e → R (swp e i j)) → R d'

theorem Swaps.refl (a b : Nat) (d : Nat → Int) : Swaps a b d d := fun _ h _ => h
theorem Swaps.trans {a b : Nat} {d e f : Nat → Int} (h : Swaps a b d e) (k : Swaps a b e f) : Swaps a b d f := fun R hd hs => k R (h R hd hs) hs
theorem Swaps.swp {a b : Nat} {d e : Nat → Int} (h : Swaps a b d e) {i j : Nat} (h1 : a ≤ i) (h2 : i < b) (h3 : a ≤ j) (h4 : j < b) : Swaps a b d (swp e i j) :=
  fun R hd hs => hs e i j h1 h2 h3 h4 (h R hd hs)
theorem Swaps.mono {a b a' b' : Nat} {d e : Nat → Int} (h : Swaps a b d e) (h1 : a' ≤ a) (h2 : b ≤ b') : Swaps a' b' d e :=
  fun R hd hs => h R hd fun e i j q1 q2 q3 q4 => hs e i j (by omega) (by omega) (by omega) (by omega)
theorem Swaps.out {a b : Nat} {d e : Nat → Int} (h : Swaps a b d e) {k : Nat} (hk : k < a ∨ b ≤ k) : e k = d k :=
  h (fun f => f k = d k) rfl fun f i j h1 h2 h3 h4 hf => by rw [swp_other f (by omega) (by omega)]; exact hf
/-- What holds of all elements of the range goes on holding. -/
theorem Swaps.all {a b : Nat} {d e : Nat → Int} (h : Swaps a b d e) (p : Int → Prop) (hd : ∀ i, a ≤ i → i < b → p (d i)) : ∀ i, a ≤ i → i < b → p (e i) :=
  h (fun f => ∀ i, a ≤ i → i < b → p (f i)) hd fun f i j h1 h2 h3 h4 hf k k1 k2 => by
    by_cases e1 : k = j
    · subst e1; rw [swp_right]; exact hf i h1 h2
    · by_cases e2 : k = i
      · subst e2; rw [swp_left]; exact hf j h3 h4
      · rw [swp_other f e2 e1]; exact hf k k1 k2

def Sorted (a b : Nat) (d : Nat → Int) : Prop := ∀ i j, a ≤ i → i < j → j < b → d i ≤ d j

/-! ### the comparison -/
theorem nan_any (x : Int) (w : World) : Calls Yba.prog 37 #[.int .i32 x] w fun e w' => e = .returned (.bool false) ∧ w' = w := by
  go_enter Yba.func37, Yba.ntmps37
  go_wp2
  go_ret
  exact ⟨by simp, rfl⟩

theorem less_any (x y : Int) (w : World) : Calls Yba.prog 44 #[.int .i32 x, .int .i32 y] w fun e w' => e = .returned (.bool (decide (x < y))) ∧ w' = w := by
  go_enter Yba.func44, Yba.ntmps44
  go_wp2_with (go_at_call 37; refine (nan_any _ _).mono ?_; rintro e w' ⟨rfl, rfl⟩)
  go_ret
  exact ⟨by simp, rfl⟩
end Go.Proofs.Ybulkfhsm.C
