/-
  zzs7960aeq: a row of tokens against a copy.
-/
import Derived.Test.YbulkfhveFmtRAName
import Derived.Laws.StructEq
import Derived.Deep.RegionHeld3
namespace Go.Proofs.YbulkfhveFmtR.A
open Go.RowKit
attribute [local go_sem ↓] Go.wp_at_zero Go.wp_at_succ

/-- The numbered tokens lie in this block. -/
def Toks (W : World) (b : Nat) (L : List Tk) : Prop := ∀ m x, L[m]? = some x → W.rangeAt b (m * 4) (x.cells m (m + 1))

theorem neq28 (k o e : Int) (t : ByteArray) (w : World) : (binOp .neq 28 (.agg #[.int .u8 k, .int .i64 o, .int .i64 e, .string t]) (.agg #[.int .u8 k, .int .i64 o, .int .i64 e, .string t])).run Ybaf.prog w = .ok (.bool false) w := by
  have u28 := Ybaf.underlying28
  go_simp
theorem eqg28 (x y : Operand) (xs ys : Array Value) (w : World) : (eqGuard .neq 28 x y (.agg xs) (.agg ys)).run Ybaf.prog w = .ok () w := by
  have h : Ybaf.prog.eqGuardType Ybaf.prog.depth 28 = false := by kernel_rfl
  simp [eqGuard, h]

theorem yieldsIf_neq {ops : Array Oper} {S : World → Prop} {op : Oper} {a : Act} (hw : Region.wanted op (yielded ops a.tmps) = true) (x y : Operand) (t : TypeId) (ho : op.op = .binOp .neq 28 x y t) (k : Tk) (o e : Nat)
    (hx : a.eval x = .agg (k.cells o e).toArray) (hy : a.eval y = .agg (k.cells o e).toArray) : YieldsIf Ybaf.prog ops S op (.bool false) a :=
  .inl ⟨hw, fun w _ => by
    have h := neq28 k.k (o : Int) (e : Int) k.t w
    unfold execOp
    simp only [ho, hx, hy, Sem.run_bind, eqg28, Result.andThen_ok]
    rw [show (k.cells o e).toArray = #[.int .u8 k.k, .int .i64 (o : Int), .int .i64 (e : Int), .string k.t] from rfl, h]
    rfl⟩

set_option maxRecDepth 100000 in
set_option maxHeartbeats 8000000 in
theorem eq_any {W : World} {a b ca cb : Nat} {L : List Tk} (ha : Toks W a L) (hb : Toks W b L) (hl : L.length ≤ 1000000) :
    Calls Ybaf.prog 7 #[.slice (some ⟨a, 0, none⟩) L.length ca, .slice (some ⟨b, 0, none⟩) L.length cb] W fun e w' => e = .returned (.bool true) ∧ W.grownBy w' none := by
  have t0 : (0 : Int) ≤ (L.length : Int) := by omega
  have t1 : (L.length : Int) ≤ 1000000 := by omega
  go_enter Ybaf.func7, Ybaf.ntmps7
  go_wp2_with fail
  go_loopw [5] (fun y W' => ∃ j : Nat, y = .int .i64 (j : Int) ∧ j ≤ L.length ∧ W.grownBy W' none) (fun y _ => L.length - (intOf y).toNat)
  case atStart => exact ⟨0, rfl, by omega, grown_refl _ _⟩
  case round =>
    obtain ⟨j, rfl, hj, hgr⟩ := hrel
    have j0 : (0 : Int) ≤ (j : Int) := by omega
    by_cases hlt : j < L.length
    · have j1 : (j : Int) < (L.length : Int) := by omega
      obtain ⟨x, hx⟩ : ∃ x, L[j]? = some x := ⟨_, List.getElem?_eq_getElem hlt⟩
      have r1 := grown_range hgr (ha j x hx) (by simp)
      have r2 := grown_range hgr (hb j x hx) (by simp)
      have l1 : ∀ n : Nat, n = n := fun _ => rfl
      clear l1
      go_upto_region 6 with (fail)
      have u28 := Ybaf.underlying28
      refine wp_region_noPanic ?_
      refine wp_region_held_drew (S := fun w' => w'.rangeAt a (j * 4) (x.cells j (j + 1)) ∧ w'.rangeAt b (j * 4) (x.cells j (j + 1))) (by kernel_rfl) ⟨r1, r2⟩ (fun hH => ?_)
      refine wpAnyH_take (i := 0) (oi := { dst := some 17, op := Op.move (Operand.tmp 0), type := 25, pos := "zz_law_s7960a.go:52", after := #[], guard := none }) (v := .slice (some ⟨a, 0, none⟩) L.length ca) rfl (by kernel_rfl) (by kernel_rfl) (by kernel_rfl) (fun _ _ _ h => h) (Or.inl ⟨by rfl, ?_⟩) hH ?_
      · intro w hSw; go_simp
      simp only [Act.put, List.setIfInBounds_toArray, List.set_cons_zero, List.set_cons_succ]
      refine wpAnyH_take (i := 1) (oi := { dst := some 18, op := Op.move (Operand.tmp 5), type := 3, pos := "zz_law_s7960a.go:52", after := #[], guard := none }) (v := .int .i64 (j : Int)) rfl (by kernel_rfl) (by kernel_rfl) (by kernel_rfl) (fun _ _ _ h => h) (Or.inl ⟨by rfl, ?_⟩) hH ?_
      · intro w hSw; go_simp
      simp only [Act.put, List.setIfInBounds_toArray, List.set_cons_zero, List.set_cons_succ]
      refine wpAnyH_take (i := 2) (oi := { dst := some 19, op := Op.indexAddr 25 (Operand.tmp 17) (Operand.tmp 18), type := 0, pos := "zz_law_s7960a.go:52", after := #[{ on := 0, ground := Ground.data }, { on := 1, ground := Ground.data }], guard := none }) (v := .pointer (some ⟨a, j * 4, none⟩)) rfl (by kernel_rfl) (by kernel_rfl) (by kernel_rfl) (fun _ _ _ h => h) (Or.inl ⟨by rfl, ?_⟩) hH ?_
      · intro w hSw; go_simp
      simp only [Act.put, List.setIfInBounds_toArray, List.set_cons_zero, List.set_cons_succ]
      refine wpAnyH_take (i := 3) (oi := { dst := some 20, op := Op.load 28 (Operand.tmp 19), type := 28, pos := "zz_law_s7960a.go:52", after := #[{ on := 2, ground := Ground.data }], guard := none }) (v := .agg (x.cells j (j + 1)).toArray) rfl (by kernel_rfl) (by kernel_rfl) (by kernel_rfl) (fun _ _ _ h => h) (yieldsIf_load_mid (by rfl) _ _ rfl _ _ rfl (x.cells j (j + 1)) _ (fun w h => h.1) u28 rfl size28) hH ?_
      simp only [Act.put, List.setIfInBounds_toArray, List.set_cons_zero, List.set_cons_succ]
      refine wpAnyH_take (i := 4) (oi := { dst := some 21, op := Op.move (Operand.tmp 1), type := 25, pos := "zz_law_s7960a.go:52", after := #[], guard := none }) (v := .slice (some ⟨b, 0, none⟩) L.length cb) rfl (by kernel_rfl) (by kernel_rfl) (by kernel_rfl) (fun _ _ _ h => h) (Or.inl ⟨by rfl, ?_⟩) hH ?_
      · intro w hSw; go_simp
      simp only [Act.put, List.setIfInBounds_toArray, List.set_cons_zero, List.set_cons_succ]
      refine wpAnyH_take (i := 5) (oi := { dst := some 22, op := Op.move (Operand.tmp 5), type := 3, pos := "zz_law_s7960a.go:52", after := #[], guard := none }) (v := .int .i64 (j : Int)) rfl (by kernel_rfl) (by kernel_rfl) (by kernel_rfl) (fun _ _ _ h => h) (Or.inl ⟨by rfl, ?_⟩) hH ?_
      · intro w hSw; go_simp
      simp only [Act.put, List.setIfInBounds_toArray, List.set_cons_zero, List.set_cons_succ]
      refine wpAnyH_take (i := 6) (oi := { dst := some 23, op := Op.indexAddr 25 (Operand.tmp 21) (Operand.tmp 22), type := 0, pos := "zz_law_s7960a.go:52", after := #[{ on := 4, ground := Ground.data }, { on := 5, ground := Ground.data }], guard := none }) (v := .pointer (some ⟨b, j * 4, none⟩)) rfl (by kernel_rfl) (by kernel_rfl) (by kernel_rfl) (fun _ _ _ h => h) (Or.inl ⟨by rfl, ?_⟩) hH ?_
      · intro w hSw; go_simp
      simp only [Act.put, List.setIfInBounds_toArray, List.set_cons_zero, List.set_cons_succ]
      refine wpAnyH_take (i := 7) (oi := { dst := some 24, op := Op.load 28 (Operand.tmp 23), type := 28, pos := "zz_law_s7960a.go:52", after := #[{ on := 6, ground := Ground.data }], guard := none }) (v := .agg (x.cells j (j + 1)).toArray) rfl (by kernel_rfl) (by kernel_rfl) (by kernel_rfl) (fun _ _ _ h => h) (yieldsIf_load_mid (by rfl) _ _ rfl _ _ rfl (x.cells j (j + 1)) _ (fun w h => h.2) u28 rfl size28) hH ?_
      simp only [Act.put, List.setIfInBounds_toArray, List.set_cons_zero, List.set_cons_succ]
      refine wpAnyH_take (i := 8) (oi := { dst := some 25, op := Op.binOp BinOp.neq 28 (Operand.tmp 20) (Operand.tmp 24) 28, type := 4, pos := "zz_law_s7960a.go:52", after := #[{ on := 3, ground := Ground.data }, { on := 7, ground := Ground.data }], guard := none }) (v := .bool false) rfl (by kernel_rfl) (by kernel_rfl) (by kernel_rfl) (fun _ _ _ h => h) (yieldsIf_neq (by rfl) _ _ _ rfl x j (j + 1) rfl rfl) hH ?_
      simp only [Act.put, List.setIfInBounds_toArray, List.set_cons_zero, List.set_cons_succ]
      refine wpAnyH_done (by kernel_rfl) ?_ _
      refine NoPanic.normal ?_
      go_wp2
      exact ⟨⟨j + 1, by go_num, by omega, grown_drew hgr⟩, by simp [intOf]; omega⟩
    · have j1 : ¬ (j : Int) < (L.length : Int) := by omega
      obtain rfl : j = L.length := by omega
      go_wp2
      go_ret
      exact ⟨rfl, hgr⟩
end Go.Proofs.YbulkfhveFmtR.A
