/-
  The key index: its state, (keyIndex).lookup.
-/
import Derived.Test.YbulkfhsmCRow
import Derived.Maps.Own
import Derived.Maps.OwnOps
import Derived.Maps.OwnSet
import Derived.Maps.Views
import Derived.Maps.Keyed
namespace Go.Proofs.Ybulkfhsm.C
open Go.RowKit Go.Maps
attribute [local go_sem ↓] Go.wp_at_zero Go.wp_at_succ

theorem keyed : Keyed Yba.prog 25 := int_keyed Yba.underlying25

/-- The map: its keys are those at which S says true. -/
def Mp (W : World) (lo : Nat) (mv : Value) (cnt : Nat) (S : Int → Bool) : Prop :=
  (mv = .map none ∧ ∀ x, S x = false) ∨ ∃ (b : Nat) (D : DataW Unit), mv = .map (some b) ∧ lo ≤ b ∧ W.ownsMap Yba.prog 25 (plainElem Yba.prog 21) b cnt D ∧ ∀ x : Int, Maps.has D (.int .i32 x) = S x

structure Ix (W : World) (s : Nat) (dh : Value) (nd : Nat) (D : Nat → Int) (mv : Value) (cnt : Nat) (S : Int → Bool) (kh : Value) (ks : List Int) : Prop where
  c0 : W.cell? ⟨s, 0, none⟩ = some dh
  c1 : W.cell? ⟨s, 1, none⟩ = some mv
  c2 : W.cell? ⟨s, 2, none⟩ = some kh
  fz : ∀ o, W.frozen? ⟨s, o, none⟩ = false
  dn : W.ownsRow (s + 1) 21 1 dh nd (rowL D nd)
  kn : W.ownsRow (s + 1) 25 1 kh ks.length (ks.map (Value.int .i32))
  mp : Mp W (s + 1) mv cnt S

/-- x has its number in the slice. -/
def InD (nd : Nat) (D : Nat → Int) (x : Int) : Prop := 0 ≤ x ∧ x.toNat < nd ∧ 0 < D x.toNat

theorem slice_form {W : World} {lo e sz : Nat} {v : Value} {n : Nat} {xs : List Value} (h : W.ownsRow lo e sz v n xs) : ∃ a cap, v = .slice a n cap := by
  rcases h.2 with ⟨rfl, rfl⟩ | ⟨g, cap, cur, rfl, _⟩
  · exact ⟨none, 0, rfl⟩
  · exact ⟨_, cap, rfl⟩

theorem row_form {W : World} {lo e sz : Nat} {v : Value} {n : Nat} {xs : List Value} (h : W.ownsRow lo e sz v n xs) (hn : 0 < n) : ∃ g cap, v = .slice (some ⟨g, 0, none⟩) n cap ∧ lo ≤ g := by
  rcases h.2 with ⟨rfl, rfl⟩ | ⟨g, cap, cur, rfl, hl, _⟩
  · omega
  · exact ⟨g, cap, rfl, hl⟩

def wf32 (x : Int) : Prop := -2147483648 ≤ x ∧ x ≤ 2147483647

theorem key_lit {x : Int} (h : wf32 x) : keyOf Yba.prog 25 (.int .i32 x) = some (.int .i32 x) := keyOf_int_mk Yba.underlying25 (by
  obtain ⟨h1, h2⟩ := h
  simp [Lit.wf, IntKind.min, IntKind.max, IntKind.signed, IntKind.bits]; omega)

set_option maxRecDepth 100000 in
set_option maxHeartbeats 1000000 in
theorem lookup_hit {w : World} {s nd cnt : Nat} {D : Nat → Int} {S : Int → Bool} {dh mv kh : Value} {ks : List Int} (h : Ix w s dh nd D mv cnt S kh ks) {x : Int} (hx : InD nd D x) (hnd : nd ≤ 66560) :
    Calls Yba.prog 32 #[.pointer (some ⟨s, 0, none⟩), .int .i32 x] w fun e w' => (∃ k : Int, e = .returned (.tuple #[.int .i32 k, .bool true])) ∧ w' = w := by
  obtain ⟨x0, x1, x2⟩ := hx
  obtain ⟨y, rfl⟩ : ∃ y : Nat, x = (y : Int) := ⟨x.toNat, by omega⟩
  simp only [Int.toNat_natCast] at x1 x2
  obtain ⟨g, cap, rfl, hg⟩ := row_form h.dn (by omega)
  have c0 := h.c0
  have cy : w.cell? ⟨g, y, none⟩ = some (.int .i32 (D y)) := by rw [World.ownsRow.cellAt h.dn y (by omega), rowL_get D x1]
  have y1 : (y : Int) < (nd : Int) := by omega
  have y2 : (y : Int) ≤ 66560 := by omega
  have y3 : (0 : Int) ≤ (nd : Int) := by omega
  have y4 : (nd : Int) ≤ 66560 := by omega
  have x3 : decide (0 < D y) = true := by simpa using x2
  go_enter Yba.func32, Yba.ntmps32
  go_wp2
  refine bodyPost_ret (results_tmp2 rfl _ _ _) rfl ?_
  exact ⟨⟨_, rfl⟩, rfl⟩

theorem zero21 (w : World) : (zeroValue 21).run Yba.prog w = .ok (.int .i32 0) w := Yba.zeroValue21 w

/-- What the walk needs where x has no number in the slice. -/
def Miss (w : World) (s : Nat) (x : Int) : Prop :=
  x < 0 ∨ ∃ (y nd cap : Nat) (a : Option Addr), x = (y : Int) ∧ w.cell? ⟨s, 0, none⟩ = some (.slice a nd cap) ∧ nd ≤ 66560 ∧ (nd ≤ y ∨ ∃ (g : Nat) (v : Int), a = some ⟨g, 0, none⟩ ∧ y < nd ∧ w.cell? ⟨g, y, none⟩ = some (.int .i32 v) ∧ v ≤ 0)

theorem Ix.miss {w : World} {s nd cnt : Nat} {D : Nat → Int} {S : Int → Bool} {dh mv kh : Value} {ks : List Int} (h : Ix w s dh nd D mv cnt S kh ks) {x : Int} (hx : ¬ InD nd D x) (hnd : nd ≤ 66560) : Miss w s x := by
  by_cases h0 : x < 0
  · exact .inl h0
  · obtain ⟨y, rfl⟩ : ∃ y : Nat, x = (y : Int) := ⟨x.toNat, by omega⟩
    obtain ⟨a, cap, rfl⟩ := slice_form h.dn
    refine .inr ⟨y, nd, cap, a, rfl, h.c0, hnd, ?_⟩
    by_cases hy : nd ≤ y
    · exact .inl hy
    · obtain ⟨g, cap', e, hg⟩ := row_form h.dn (by omega)
      cases e
      refine .inr ⟨g, D y, rfl, by omega, by rw [World.ownsRow.cellAt h.dn y (by omega), rowL_get D (by omega)], ?_⟩
      simp only [InD, Int.toNat_natCast] at hx
      omega

set_option maxRecDepth 100000 in
set_option maxHeartbeats 1000000 in
theorem lookup_miss {w : World} {s cnt : Nat} {S : Int → Bool} {mv : Value} {x : Int} (hM : Miss w s x) (hw : wf32 x) (c1 : w.cell? ⟨s, 1, none⟩ = some mv) (hm : Mp w (s + 1) mv cnt S) :
    Calls Yba.prog 32 #[.pointer (some ⟨s, 0, none⟩), .int .i32 x] w fun e w' => (∃ k : Int, e = .returned (.tuple #[.int .i32 k, .bool (S x)])) ∧ w' = w := by
  go_enter Yba.func32, Yba.ntmps32
  go_upto_region 1 with (fail)
  go_cut [30] from 8 to 50 (fun v W => v = .bool false ∧ W = w)
  case first =>
    rcases hM with h0 | ⟨y, nd, cap, a, rfl, c0, hnd, h1 | ⟨g, v, rfl, h1, c2, h2⟩⟩
    · have h0' : ¬ (0 ≤ x) := by omega
      go_wp2
      go_meet
      case rel => exact ⟨rfl, rfl⟩
    · have y1 : ¬ (y : Int) < (nd : Int) := by omega
      have y2 : (y : Int) ≤ 2147483647 := hw.2
      have y4 : (nd : Int) ≤ 66560 := by omega
      go_wp2
      go_meet
      case rel => exact ⟨rfl, rfl⟩
    · have y1 : (y : Int) < (nd : Int) := by omega
      have y2 : (y : Int) ≤ 2147483647 := hw.2
      have y4 : (nd : Int) ≤ 66560 := by omega
      have x3 : decide (0 < v) = false := by simpa using h2
      go_wp2
      go_meet
      case rel => exact ⟨rfl, rfl⟩
  case rest =>
  obtain ⟨rfl, ew⟩ := hcut
  obtain rfl := ew.symm
  rcases hm with ⟨rfl, hS⟩ | ⟨b, D, rfl, hb, hown, hS⟩
  · have hl := Maps.look_nil (P := Yba.prog) true keyed Yba.underlying85 (zero21 w) (key_lit hw)
    go_wp2
    refine bodyPost_ret (results_tmp2 rfl _ _ _) rfl ?_
    exact ⟨⟨_, rfl⟩, rfl⟩
  · go_wp2_with (at_lookup; refine wpList_lookup_own_ok_int _ rfl _ _ 85 rfl 25 21 .i32 keyed Yba.underlying85 Yba.underlying21 (zero21 _) b cnt D rfl hown _ _ rfl (key_lit hw) ?_; intro c hat hwc)
    refine bodyPost_ret (results_tmp2 rfl _ _ _) rfl ?_
    exact ⟨⟨_, rfl⟩, rfl⟩
end Go.Proofs.Ybulkfhsm.C
