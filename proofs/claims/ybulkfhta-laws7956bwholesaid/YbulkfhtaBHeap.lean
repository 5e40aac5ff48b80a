/-
  The heap of the senders: the methods that container/heap calls.
-/
import Derived.Test.YbulkfhtaBTime
import Derived.Deep.AppendLies
import Derived.Deep.RegionLaw
import Derived.OwnWalk
namespace Go.Proofs.Ybulkfhta.B
open Go.RowKit
attribute [local go_sem ↓] Go.wp_at_zero Go.wp_at_succ

/-! ### a block that is known whole -/
def Blk (W : World) (g ty : Nat) (l : List Value) : Prop := W.heap[g]? = some (.cells l.toArray ty (0, 0))

theorem grown_set (w : World) (a : Addr) (v : Value) : w.grownBy (w.setCell a v) (some a.block) :=
  ⟨rfl, rfl, rfl, by simp [World.setCell], fun k _ hr => Below.heap_setCell _ _ _ _ (fun e => hr (by rw [e]))⟩

section
variable {W W' : World} {g ty : Nat} {l : List Value}
theorem Blk.lt (h : Blk W g ty l) : g < W.heap.size := (Array.getElem?_eq_some_iff.1 h).1
theorem Blk.cell (h : Blk W g ty l) {i : Nat} {v : Value} (hv : l[i]? = some v) : W.cell? ⟨g, i, none⟩ = some v := by
  rw [cell_of_row W g i _ ty (0, 0) h]; simpa using hv
theorem Blk.frozen (h : Blk W g ty l) (j : Nat) : W.frozen? ⟨g, j, none⟩ = false := by simp [World.frozen?, show W.heap[g]? = _ from h]
theorem Blk.kept (h : Blk W g ty l) {row : Option Nat} (hg : W.grownBy W' row) (hne : some g ≠ row) : Blk W' g ty l := (hg.block g h.lt hne).trans h
theorem Blk.below (h : Blk W g ty l) {B : Nat} (hb : Below B W W') (hB : g < B) : Blk W' g ty l := (hb.block g hB).trans h
theorem Blk.store (h : Blk W g ty l) (i : Nat) (v : Value) : Blk (W.setCell ⟨g, i, none⟩ v) g ty (l.set i v) := by
  rw [setCell_eq_setRow W g i _ ty (0, 0) v h]
  have := setRow_heap W g l.toArray (l.toArray.setIfInBounds i v) ty (0, 0) h
  unfold Blk
  rw [this]
  simp
theorem Blk.other (h : Blk W g ty l) {a : Addr} (ha : g ≠ a.block) (v : Value) : Blk (W.setCell a v) g ty l := h.kept (grown_set W a v) (by simpa using ha)
theorem Blk.alloc (h : Blk W g ty l) (o : Obj) : Blk (W.alloc o) g ty l := h.kept (World.grownBy_alloc W o none) (by simp)
theorem Blk.new (W : World) (ty : Nat) (l : List Value) : Blk (W.alloc (.cells l.toArray ty)) W.heap.size ty l := heap_alloc_new _ _
end
theorem below_grown {n : Nat} {a b : World} (h : Below n a b) (hn : a.heap.size ≤ n) : a.grownBy b none := ⟨h.os, h.tape, h.output, h.size, fun k hk _ => h.block k (by omega)⟩
theorem own_ne {W : World} {lo e k n g ty : Nat} {v : Value} {xs l : List Value} (h : W.ownsRow lo e k v n xs) (hb : Blk W g ty l) (ht : ty ≠ e) : some g ≠ v.ownBlock := by
  intro e'
  rcases h.2 with ⟨rfl, _⟩ | ⟨g', cap, cur, rfl, _, hh, _⟩
  · simp [Value.ownBlock] at e'
  · simp only [Value.ownBlock, Option.some.injEq] at e'
    subst e'
    unfold Blk at hb
    rw [hb] at hh
    simp at hh
    exact ht hh.2
theorem slice_form {W : World} {lo e sz : Nat} {v : Value} {n : Nat} {xs : List Value} (h : W.ownsRow lo e sz v n xs) : ∃ a cap, v = .slice a n cap := by
  rcases h.2 with ⟨rfl, rfl⟩ | ⟨g, cap, cur, rfl, _⟩
  · exact ⟨none, 0, rfl⟩
  · exact ⟨_, cap, rfl⟩
theorem row_form {W : World} {lo e sz : Nat} {v : Value} {n : Nat} {xs : List Value} (h : W.ownsRow lo e sz v n xs) (hn : 0 < n) : ∃ g cap, v = .slice (some ⟨g, 0, none⟩) n cap ∧ lo ≤ g := by
  rcases h.2 with ⟨rfl, rfl⟩ | ⟨g, cap, cur, rfl, hl, _⟩
  · omega
  · exact ⟨g, cap, rfl, hl⟩

/-! ### the methods behind the interface -/
theorem recv (s : String) (a : Addr) (W : World) : (receiverAt 68 (.val (.pointer (some a))) false (some s)).run Yba.prog W = (load a).run Yba.prog W := by kernel_rfl
theorem method_value {name : String} {f : FuncId} (h : ((Yba.prog.info? 68).bind fun i => (i.methods.find? (·.name == name)).map fun m => (m.func, m.path.toList, m.path.isEmpty)) = some (some (f, false), [], true)) {a : Addr} {W : World} {v : Value} (hc : W.cell? a = some v) :
    (method 251 68 (.pointer (some a)) name).run Yba.prog W = .ok (f, v) W := by
  obtain ⟨i, hi, hm⟩ := Option.bind_eq_some_iff.1 h
  obtain ⟨m, hf, he⟩ := Option.map_eq_some_iff.1 hm
  simp only [Prod.mk.injEq] at he
  obtain ⟨h1, h2, h3⟩ := he
  rw [method]
  simp [typeInfo, hi, hf, h1, h2, follow]
  rw [if_pos (by simpa using h2), recv]
  simp [hc]
theorem mLen {a : Addr} {W : World} {v : Value} (hc : W.cell? a = some v) : (method 251 68 (.pointer (some a)) "Len").run Yba.prog W = .ok (49, v) W := method_value (by kernel_rfl) hc
theorem mLess {a : Addr} {W : World} {v : Value} (hc : W.cell? a = some v) : (method 251 68 (.pointer (some a)) "Less").run Yba.prog W = .ok (50, v) W := method_value (by kernel_rfl) hc
theorem mSwap {a : Addr} {W : World} {v : Value} (hc : W.cell? a = some v) : (method 251 68 (.pointer (some a)) "Swap").run Yba.prog W = .ok (51, v) W := method_value (by kernel_rfl) hc
theorem mBefore (a : Addr) (W : World) : (method 251 51 (.pointer (some a)) "Before").run Yba.prog W = .ok (52, .pointer (some a)) W := by kernel_rfl
theorem mSetIndex (a : Addr) (W : World) : (method 251 51 (.pointer (some a)) "SetIndex").run Yba.prog W = .ok (53, .pointer (some a)) W := by kernel_rfl
theorem mPush (a : Addr) (W : World) : (method 251 68 (.pointer (some a)) "Push").run Yba.prog W = .ok (56, .pointer (some a)) W := by kernel_rfl

/-- A sender that is due at n. -/
def Snd (W : World) (b : Nat) (n : Int) : Prop := ∃ nm ag ix, Blk W b 54 [nm, ag, .int .u64 (n % 1000000000), .int .i64 (n / 1000000000), .pointer none, .int .i64 ix]

set_option maxRecDepth 100000 in
set_option maxHeartbeats 2000000 in
theorem sbefore_any {W : World} {a b : Nat} {n m : Int} (ha : Snd W a n) (hb : Snd W b m) :
    Calls Yba.prog 52 #[.pointer (some ⟨a, 0, none⟩), .pointer (some ⟨b, 0, none⟩)] W fun e w' => e = .returned (.bool (decide (n < m))) ∧ Below W.heap.size W w' := by
  obtain ⟨nm, ag, ix, ha⟩ := ha
  obtain ⟨nm', ag', ix', hb⟩ := hb
  have a2 := ha.cell (i := 2) rfl
  have a3 := ha.cell (i := 3) rfl
  have a4 := ha.cell (i := 4) rfl
  have b2 := hb.cell (i := 2) rfl
  have b3 := hb.cell (i := 3) rfl
  have b4 := hb.cell (i := 4) rfl
  have hcon := before_any n m W.drew
  unfold tv at hcon
  generalize decide (n < m) = t at hcon ⊢
  have HC := hide hcon
  clear hcon
  go_enter Yba.func52, Yba.ntmps52
  go_upto_region 1 with (fail)
  go_region_with (go_at_call 15; refine HC.out.mono ?_; rintro e w1 ⟨rfl, hbel⟩)
  all_goals
    go_wp2
    go_ret
    exact ⟨rfl, ⟨hbel.os, hbel.tape, hbel.output, hbel.size, hbel.block⟩⟩

theorem setIndex_any {W : World} {b : Nat} {i : Int} {v : Value} (h : W.cell? ⟨b, 5, none⟩ = some v) (hf : W.frozen? ⟨b, 5, none⟩ = false) :
    Calls Yba.prog 53 #[.pointer (some ⟨b, 0, none⟩), .int .i64 i] W fun e w' => e = .returned (.tuple #[]) ∧ w' = W.setCell ⟨b, 5, none⟩ (.int .i64 i) := by
  go_enter Yba.func53, Yba.ntmps53
  go_wp2
  go_end0
  exact ⟨rfl, rfl⟩
end Go.Proofs.Ybulkfhta.B
