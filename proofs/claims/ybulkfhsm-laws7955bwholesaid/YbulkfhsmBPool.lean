/-
  The pool of wait nodes as the walks see it: a row of ten cells a node, told by a plain function from numbers to nodes.
-/
import Derived.Test.YbulkfhsmProg
import Derived.WalkKit
namespace Go.Proofs.Ybulkfhsm.B
open Go.RowKit

structure Nd where
  place : Int
  txn : Int
  name : Int
  excl : Bool
  prio : Int
  left : Int
  right : Int
  least : Int
  lex : Int
  fex : Int

def Nd.cells (d : Nd) : List Value :=
  [.int .i64 d.place, .int .i32 d.txn, .int .i32 d.name, .bool d.excl, .int .u32 d.prio, .int .i32 d.left, .int .i32 d.right, .int .i32 d.least, .int .i32 d.lex, .int .i32 d.fex]

theorem Nd.len (d : Nd) : d.cells.length = 10 := rfl

def upd (ns : Nat → Nd) (i : Nat) (d : Nd) : Nat → Nd := fun j => if j = i then d else ns j

theorem upd_same (ns : Nat → Nd) (i : Nat) (d : Nd) : upd ns i d i = d := by simp [upd]
theorem upd_other (ns : Nat → Nd) {i j : Nat} (d : Nd) (h : j ≠ i) : upd ns i d j = ns j := by simp [upd, h]
theorem upd_upd (ns : Nat → Nd) (i : Nat) (d d' : Nd) : upd (upd ns i d) i d' = upd ns i d' := by
  funext j; by_cases h : j = i <;> simp [upd, h]

def flat (ns : Nat → Nd) : Nat → List Value
  | 0 => []
  | n + 1 => flat ns n ++ (ns n).cells

theorem flat_len (ns : Nat → Nd) (n : Nat) : (flat ns n).length = n * 10 := by
  induction n with
  | zero => rfl
  | succ n ih => simp [flat, ih, Nd.len]; omega

theorem flat_get (ns : Nat → Nd) {n i k : Nat} (hi : i < n) (hk : k < 10) : (flat ns n)[i * 10 + k]? = (ns i).cells[k]? := by
  induction n with
  | zero => omega
  | succ n ih =>
    simp only [flat]
    by_cases h : i < n
    · rw [List.getElem?_append_left (by rw [flat_len]; omega)]; exact ih h
    · have : i = n := by omega
      subst this
      rw [List.getElem?_append_right (by rw [flat_len]; omega), flat_len]
      congr 1; omega

theorem flat_congr {ns ns' : Nat → Nd} {n : Nat} (h : ∀ j, j < n → ns j = ns' j) : flat ns n = flat ns' n := by
  induction n with
  | zero => rfl
  | succ n ih => simp only [flat]; rw [ih (fun j hj => h j (by omega)), h n (by omega)]

theorem flat_set (ns : Nat → Nd) {n i k : Nat} (v : Value) (d : Nd) (hi : i < n) (hk : k < 10) (hd : d.cells = (ns i).cells.set k v) :
    (flat ns n).set (i * 10 + k) v = flat (upd ns i d) n := by
  induction n with
  | zero => omega
  | succ n ih =>
    simp only [flat]
    by_cases h : i < n
    · rw [List.set_append_left _ _ (by rw [flat_len]; omega), ih h, upd_other _ _ (by omega)]
    · have : i = n := by omega
      subst this
      rw [List.set_append_right _ _ (by rw [flat_len]; omega), flat_len, upd_same, hd]
      congr 1
      · exact flat_congr fun j hj => (upd_other _ _ (by omega)).symm
      · congr 1; omega

/-- The pool: its header lies in cell 0 of block s, its nodes in a row that the call owns. -/
structure Pool (w : World) (base s : Nat) (hdr : Value) (n : Nat) (ns : Nat → Nd) : Prop where
  own : w.ownsRow base 69 10 hdr n (flat ns n)
  hd : w.cell? ⟨s, 0, none⟩ = some hdr
  ne : hdr.ownBlock ≠ some s

theorem Pool.form {w : World} {base s : Nat} {hdr : Value} {n : Nat} {ns : Nat → Nd} (h : Pool w base s hdr n ns) (hn : 0 < n) :
    ∃ B cap, hdr = .slice (some ⟨B, 0, none⟩) n cap ∧ base ≤ B ∧ B ≠ s ∧ n ≤ cap ∧ cap ≤ maxLen := by
  rcases h.own.2 with ⟨_, h0⟩ | ⟨g, cap, cur, rfl, hb, _, hc, hm, _⟩
  · omega
  · exact ⟨g, cap, rfl, hb, fun e => h.ne (by simp [Value.ownBlock, e]), hc, hm⟩

section
variable {w : World} {base s B n cap : Nat} {ns : Nat → Nd}

theorem Pool.cell (h : Pool w base s (.slice (some ⟨B, 0, none⟩) n cap) n ns) {i k : Nat} (hi : i < n) (hk : k < 10) :
    w.cell? ⟨B, i * 10 + k, none⟩ = (ns i).cells[k]? := by
  rw [h.own.cellAt _ (by omega), flat_get ns hi hk]

theorem Pool.frozen (h : Pool w base s (.slice (some ⟨B, 0, none⟩) n cap) n ns) (j : Nat) : w.frozen? ⟨B, j, none⟩ = false := h.own.frozenAt j

theorem Pool.store (h : Pool w base s (.slice (some ⟨B, 0, none⟩) n cap) n ns) {i k : Nat} (hi : i < n) (hk : k < 10) (v : Value) (d : Nd) (hd : d.cells = (ns i).cells.set k v) :
    Pool (w.setCell ⟨B, i * 10 + k, none⟩ v) base s (.slice (some ⟨B, 0, none⟩) n cap) n (upd ns i d) ∧ w.grownBy (w.setCell ⟨B, i * 10 + k, none⟩ v) (some B) := by
  obtain ⟨h1, h2⟩ := h.own.stored (i * 10 + k) v
  rw [flat_set ns v d hi hk hd] at h1
  refine ⟨⟨h1, ?_, h.ne⟩, h2⟩
  rw [World.cell?_setCell_other _ _ _ _ (by intro e; simp at e; exact h.ne (by simp [Value.ownBlock, e]))]
  exact h.hd
end

/-- Two steps that write into one and the same row. -/
theorem grown_trans {a b c : World} {row : Option Nat} (h : a.grownBy b row) (k : b.grownBy c row) : a.grownBy c row :=
  ⟨k.os.trans h.os, k.tape.trans h.tape, k.output.trans h.output, Nat.le_trans h.size k.size, fun i hi hr => (k.block i (Nat.lt_of_lt_of_le hi h.size) hr).trans (h.block i hi hr)⟩

theorem grown_drew (w : World) (row : Option Nat) : w.grownBy w.drew row := ⟨rfl, rfl, rfl, Nat.le_refl _, fun _ _ _ => rfl⟩

theorem Pool.drew {w : World} {base s : Nat} {hdr : Value} {n : Nat} {ns : Nat → Nd} (h : Pool w base s hdr n ns) : Pool w.drew base s hdr n ns := ⟨h.own, h.hd, h.ne⟩

end Go.Proofs.Ybulkfhsm.B
