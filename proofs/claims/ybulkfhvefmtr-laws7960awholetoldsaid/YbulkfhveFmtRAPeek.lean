/-
  The parser's small steps: peek, tok, isText, is, next, accept, isAny.
-/
import Derived.Test.YbulkfhveFmtRAKit
import Derived.Deep.RegionHeld3
namespace Go.Proofs.YbulkfhveFmtR.A
open Go.RowKit
attribute [local go_sem ↓] Go.wp_at_zero Go.wp_at_succ

/-- The parser at its token number i. -/
structure Ps (W : World) (g tb cap : Nat) (L : List Tk) (i : Nat) (dep : Int) (sub : Bool) : Prop where
  blk : Blk W g 35 [.slice (some ⟨tb, 0, none⟩) L.length cap, .int .i64 (i : Int), .int .i64 dep, .pointer none, .pointer none, .bool sub]
  tok : ∀ m x, L[m]? = some x → W.rangeAt tb (m * 4) (x.cells m (m + 1))
  ne : tb ≠ g
  ilt : i < L.length
  len : L.length ≤ 1000000
theorem grown_range {w w' : World} {row : Option Nat} (h : w.grownBy w' row) {g o : Nat} {l : List Value} (hr : w.rangeAt g o l) (hne : some g ≠ row) : w'.rangeAt g o l := fun j v hv => h.cell (hr j v hv) hne
theorem Ps.grown {W W' : World} {g tb cap : Nat} {L : List Tk} {i : Nat} {dep : Int} {sub : Bool} (h : Ps W g tb cap L i dep sub) (hg : W.grownBy W' none) : Ps W' g tb cap L i dep sub :=
  ⟨h.blk.kept hg (by simp), fun m x e => grown_range hg (h.tok m x e) (by simp), h.ne, h.ilt, h.len⟩

set_option maxRecDepth 100000 in
set_option maxHeartbeats 8000000 in
theorem peek_any {W : World} {g tb cap : Nat} {L : List Tk} {i : Nat} {dep : Int} {sub : Bool} {x : Tk} (h : Ps W g tb cap L i dep sub) (hx : L[i]? = some x) :
    Calls Ybaf.prog 19 #[.pointer (some ⟨g, 0, none⟩), .int .i64 0] W fun e w' => e = .returned (.agg (x.cells i (i + 1)).toArray) ∧ W.grownBy w' none := by
  have hi := h.ilt
  have hl := h.len
  obtain ⟨g2, eg⟩ : ∃ g2, g2 = W.heap.size := ⟨_, rfl⟩
  have hb2 : Blk (W.alloc (.cells #[.int .u8 0, .int .i64 0, .int .i64 0, .string { data := #[] }] 28)) g2 28 [.int .u8 0, .int .i64 0, .int .i64 0, .string { data := #[] }] := by rw [eg]; exact Blk.new W 28 _
  have hgr : W.grownBy (W.alloc (.cells #[.int .u8 0, .int .i64 0, .int .i64 0, .string { data := #[] }] 28)) none := World.grownBy_alloc _ _ _
  go_enter Ybaf.func19, Ybaf.ntmps19
  go_upto_region 1 with (fail)
  simp only [← eg]
  have hp := h.grown hgr
  generalize (W.alloc (.cells #[.int .u8 0, .int .i64 0, .int .i64 0, .string { data := #[] }] 28)) = w1 at hb2 hgr hp ⊢
  have EG := hide eg
  clear eg
  have c0 := hp.blk.cell (i := 0) rfl
  have c1 := hp.blk.cell (i := 1) rfl
  have i0 : (0 : Int) ≤ (i : Int) := by omega
  have i1 : (i : Int) < (L.length : Int) := by omega
  have i2 : (L.length : Int) ≤ 1000000 := by omega
  go_quiet (fail)
  go_upto_region 2 with (fail)
  have HWR := hide (show IntKind.i64.wrap (i : Int) = (i : Int) by simp [IntKind.wrap, IntKind.signed, IntKind.bits]; omega)
  have hrng := hp.tok i x hx
  have hS : (w1.drewN nq).cell? ⟨g, 0, none⟩ = some (.slice (some ⟨tb, 0, none⟩) L.length cap) ∧ (w1.drewN nq).cell? ⟨g, 1, none⟩ = some (.int .i64 (i : Int)) ∧ (w1.drewN nq).rangeAt tb (i * 4) (x.cells i (i + 1)) ∧ (w1.drewN nq).there g2 0 4 := ⟨c0, c1, hrng, hb2.there rfl⟩
  have u28 := Ybaf.underlying28
  have hne1 := h.blk.lt
  have hne2 := World.block_lt_of_cell? _ _ (h.tok i x hx 0 _ rfl)
  simp only at hne2
  have hg3 := grown_sets g2 (x.cells i (i + 1)) 0 (w1.drewN nq).drew
  have HSS := hide (show ((w1.drewN nq).drew.setCells g2 0 (x.cells i (i + 1))).cell? ⟨g, 0, none⟩ = some (.slice (some ⟨tb, 0, none⟩) L.length cap) ∧ ((w1.drewN nq).drew.setCells g2 0 (x.cells i (i + 1))).cell? ⟨g, 1, none⟩ = some (.int .i64 (i : Int)) ∧ ((w1.drewN nq).drew.setCells g2 0 (x.cells i (i + 1))).rangeAt tb (i * 4) (x.cells i (i + 1)) ∧ ((w1.drewN nq).drew.setCells g2 0 (x.cells i (i + 1))).there g2 0 4 from
    ⟨hg3.cell c0 (by have := EG.out; simp; omega), hg3.cell c1 (by have := EG.out; simp; omega), grown_range hg3 hrng (by have := EG.out; simp; omega), ((hb2.drewN nq).drew.whole (l' := x.cells i (i + 1)) rfl).there rfl⟩)
  clear c0 c1
  refine wp_region_noPanic ?_
  refine wp_region_held_drew (S := fun w' => w'.cell? ⟨g, 0, none⟩ = some (.slice (some ⟨tb, 0, none⟩) L.length cap) ∧ w'.cell? ⟨g, 1, none⟩ = some (.int .i64 (i : Int)) ∧ w'.rangeAt tb (i * 4) (x.cells i (i + 1)) ∧ w'.there g2 0 4) (by kernel_rfl) hS (fun hH => ?_)
  refine wpAnyH_take (i := 0) (oi := { dst := some 17, op := Op.move (Operand.tmp 0), type := 31, pos := "parser.go:67", after := #[], guard := none }) (v := .pointer (some ⟨g, 0, none⟩)) rfl (by kernel_rfl) (by kernel_rfl) (by kernel_rfl) (fun _ _ _ h => h) (Or.inl ⟨by rfl, ?_⟩) hH ?_
  · intro w hSw; go_simp
  simp only [Act.put, List.setIfInBounds_toArray, List.set_cons_zero, List.set_cons_succ]
  refine wpAnyH_take (i := 1) (oi := { dst := some 18, op := Op.nilCheck (Operand.tmp 17), type := 0, pos := "parser.go:67", after := #[{ on := 0, ground := Ground.data }], guard := none }) (v := .pointer (some ⟨g, 0, none⟩)) rfl (by kernel_rfl) (by kernel_rfl) (by kernel_rfl) (fun _ _ _ h => h) (Or.inl ⟨by rfl, ?_⟩) hH ?_
  · intro w hSw; go_simp
  simp only [Act.put, List.setIfInBounds_toArray, List.set_cons_zero, List.set_cons_succ]
  refine wpAnyH_take (i := 2) (oi := { dst := some 19, op := Op.fieldAddr 35 (Operand.tmp 18) 0, type := 0, pos := "parser.go:67", after := #[{ on := 1, ground := Ground.data }], guard := none }) (v := .pointer (some ⟨g, 0, none⟩)) rfl (by kernel_rfl) (by kernel_rfl) (by kernel_rfl) (fun _ _ _ h => h) (Or.inl ⟨by rfl, ?_⟩) hH ?_
  · intro w hSw; go_simp
  simp only [Act.put, List.setIfInBounds_toArray, List.set_cons_zero, List.set_cons_succ]
  refine wpAnyH_take (i := 3) (oi := { dst := some 20, op := Op.load 25 (Operand.tmp 19), type := 25, pos := "parser.go:67", after := #[{ on := 2, ground := Ground.data }], guard := none }) (v := .slice (some ⟨tb, 0, none⟩) L.length cap) rfl (by kernel_rfl) (by kernel_rfl) (by kernel_rfl) (fun _ _ _ h => h) (Or.inl ⟨by rfl, ?_⟩) hH ?_
  · intro w hSw; go_simp
  simp only [Act.put, List.setIfInBounds_toArray, List.set_cons_zero, List.set_cons_succ]
  refine wpAnyH_take (i := 4) (oi := { dst := some 21, op := Op.move (Operand.tmp 0), type := 31, pos := "parser.go:67", after := #[], guard := none }) (v := .pointer (some ⟨g, 0, none⟩)) rfl (by kernel_rfl) (by kernel_rfl) (by kernel_rfl) (fun _ _ _ h => h) (Or.inl ⟨by rfl, ?_⟩) hH ?_
  · intro w hSw; go_simp
  simp only [Act.put, List.setIfInBounds_toArray, List.set_cons_zero, List.set_cons_succ]
  refine wpAnyH_take (i := 5) (oi := { dst := some 22, op := Op.nilCheck (Operand.tmp 21), type := 0, pos := "parser.go:67", after := #[{ on := 4, ground := Ground.data }], guard := none }) (v := .pointer (some ⟨g, 0, none⟩)) rfl (by kernel_rfl) (by kernel_rfl) (by kernel_rfl) (fun _ _ _ h => h) (Or.inl ⟨by rfl, ?_⟩) hH ?_
  · intro w hSw; go_simp
  simp only [Act.put, List.setIfInBounds_toArray, List.set_cons_zero, List.set_cons_succ]
  refine wpAnyH_take (i := 6) (oi := { dst := some 23, op := Op.fieldAddr 35 (Operand.tmp 22) 1, type := 0, pos := "parser.go:67", after := #[{ on := 5, ground := Ground.data }], guard := none }) (v := .pointer (some ⟨g, 1, none⟩)) rfl (by kernel_rfl) (by kernel_rfl) (by kernel_rfl) (fun _ _ _ h => h) (Or.inl ⟨by rfl, ?_⟩) hH ?_
  · intro w hSw; go_simp
  simp only [Act.put, List.setIfInBounds_toArray, List.set_cons_zero, List.set_cons_succ]
  refine wpAnyH_take (i := 7) (oi := { dst := some 24, op := Op.load 3 (Operand.tmp 23), type := 3, pos := "parser.go:67", after := #[{ on := 6, ground := Ground.data }], guard := none }) (v := .int .i64 (i : Int)) rfl (by kernel_rfl) (by kernel_rfl) (by kernel_rfl) (fun _ _ _ h => h) (Or.inl ⟨by rfl, ?_⟩) hH ?_
  · intro w hSw; go_simp
  simp only [Act.put, List.setIfInBounds_toArray, List.set_cons_zero, List.set_cons_succ]
  refine wpAnyH_take (i := 8) (oi := { dst := some 25, op := Op.move (Operand.tmp 1), type := 3, pos := "parser.go:67", after := #[], guard := none }) (v := .int .i64 0) rfl (by kernel_rfl) (by kernel_rfl) (by kernel_rfl) (fun _ _ _ h => h) (Or.inl ⟨by rfl, ?_⟩) hH ?_
  · intro w hSw; go_simp
  simp only [Act.put, List.setIfInBounds_toArray, List.set_cons_zero, List.set_cons_succ]
  refine wpAnyH_take (i := 9) (oi := { dst := some 26, op := Op.binOp BinOp.add 3 (Operand.tmp 24) (Operand.tmp 25) 3, type := 3, pos := "parser.go:67", after := #[{ on := 7, ground := Ground.data }, { on := 8, ground := Ground.data }], guard := none }) (v := .int .i64 (i : Int)) rfl (by kernel_rfl) (by kernel_rfl) (by kernel_rfl) (fun _ _ _ h => h) (Or.inl ⟨by rfl, ?_⟩) hH ?_
  · intro w hSw; go_simp; exact HWR.out
  simp only [Act.put, List.setIfInBounds_toArray, List.set_cons_zero, List.set_cons_succ]
  refine wpAnyH_take (i := 10) (oi := { dst := some 27, op := Op.indexAddr 25 (Operand.tmp 20) (Operand.tmp 26), type := 0, pos := "parser.go:67", after := #[{ on := 3, ground := Ground.data }, { on := 9, ground := Ground.data }], guard := none }) (v := .pointer (some ⟨tb, i * 4, none⟩)) rfl (by kernel_rfl) (by kernel_rfl) (by kernel_rfl) (fun _ _ _ h => h) (Or.inl ⟨by rfl, ?_⟩) hH ?_
  · intro w hSw; go_simp
  simp only [Act.put, List.setIfInBounds_toArray, List.set_cons_zero, List.set_cons_succ]
  refine wpAnyH_take (i := 11) (oi := { dst := some 28, op := Op.load 28 (Operand.tmp 27), type := 28, pos := "parser.go:67", after := #[{ on := 10, ground := Ground.data }], guard := none }) (v := .agg (x.cells i (i + 1)).toArray) rfl (by kernel_rfl) (by kernel_rfl) (by kernel_rfl) (fun _ _ _ h => h) (yieldsIf_load_mid (by rfl) _ _ rfl _ _ rfl (x.cells i (i + 1)) _ (fun w h => h.2.2.1) u28 rfl size28) hH ?_
  simp only [Act.put, List.setIfInBounds_toArray, List.set_cons_zero, List.set_cons_succ]
  refine wpAnyH_ready (rs := [12]) (by kernel_rfl) (by simp) ?_
  refine AllReadyH.cons (o := { dst := none, op := Op.store 28 (Operand.tmp 4) (Operand.tmp 28), type := 0, pos := "parser.go:67", after := #[{ on := 11, ground := Ground.data }, { on := 0, ground := Ground.phase }, { on := 1, ground := Ground.phase }, { on := 2, ground := Ground.phase }, { on := 3, ground := Ground.phase }, { on := 4, ground := Ground.phase }, { on := 5, ground := Ground.phase }, { on := 6, ground := Ground.phase }, { on := 7, ground := Ground.phase }, { on := 8, ground := Ground.phase }, { on := 9, ground := Ground.phase }, { on := 10, ground := Ground.phase }, { on := 11, ground := Ground.phase }], guard := none }) rfl (fun K hK => ?_) AllReadyH.nil
  rw [if_pos (by rfl)]
  refine wp_store_mid _ _ _ rfl g2 0 (x.cells i (i + 1)).toArray rfl rfl hH.2.2.2 size28 (all_oneCell_toArray (x.one _ _)) ?_
  refine hK.out _ _ (HSS.out) (fun hS1 => ?_)
  clear hK K
  refine wpAnyH_done (by kernel_rfl) ?_ _
  refine NoPanic.normal ?_
  go_wp2
  have hb5 := (hb2.drewN nq).drew.whole (l' := x.cells i (i + 1)) rfl
  refine bodyPost_ret (results_cell rfl rfl hb5.all _ Ybaf.underlying28 rfl size28) rfl ?_
  refine ⟨rfl, ?_⟩
  have hg4 : W.grownBy (w1.drewN nq).drew none := ⟨hgr.os, hgr.tape, hgr.output, hgr.size, hgr.block⟩
  exact grown_trans hg4 hg3 (.inr fun q e => by cases e; have := EG.out; omega)

theorem grown_none {a b c : World} (h : a.grownBy b none) (k : b.grownBy c none) : a.grownBy c none := grown_trans h k (.inl rfl)

set_option maxRecDepth 100000 in
set_option maxHeartbeats 8000000 in
theorem tok12_any {W : World} {g tb cap : Nat} {L : List Tk} {i : Nat} {dep : Int} {sub : Bool} {x : Tk} (h : Ps W g tb cap L i dep sub) (hx : L[i]? = some x) :
    Calls Ybaf.prog 12 #[.pointer (some ⟨g, 0, none⟩)] W fun e w' => e = .returned (.agg (x.cells i (i + 1)).toArray) ∧ W.grownBy w' none := by
  obtain ⟨g2, eg⟩ : ∃ g2, g2 = W.heap.size := ⟨_, rfl⟩
  have hb2 : Blk (W.alloc (.cells #[.int .u8 0, .int .i64 0, .int .i64 0, .string { data := #[] }] 28)) g2 28 [.int .u8 0, .int .i64 0, .int .i64 0, .string { data := #[] }] := by rw [eg]; exact Blk.new W 28 _
  have hgr : W.grownBy (W.alloc (.cells #[.int .u8 0, .int .i64 0, .int .i64 0, .string { data := #[] }] 28)) none := World.grownBy_alloc _ _ _
  go_enter Ybaf.func12, Ybaf.ntmps12
  go_upto_region 1 with (fail)
  simp only [← eg]
  have hp := h.grown hgr
  generalize (W.alloc (.cells #[.int .u8 0, .int .i64 0, .int .i64 0, .string { data := #[] }] 28)) = w1 at hb2 hgr hp ⊢
  have EG := hide eg
  clear eg
  go_wp2_with fail
  refine (peek_any hp hx).mono ?_
  rintro e w2 ⟨rfl, hg2⟩
  have hb3 := hb2.kept hg2 (by simp)
  go_wp2_with (refine wpList_store_mid (by rfl) 28 _ _ (by rfl) g2 0 (x.cells i (i + 1)).toArray (by rfl) (by rfl) (hb3.there rfl) size28 (all_oneCell_toArray (x.one _ _)) ?_)
  have hb5 := hb3.whole (l' := x.cells i (i + 1)) rfl
  refine bodyPost_ret (results_cell rfl rfl hb5.all _ Ybaf.underlying28 rfl size28) rfl ?_
  refine ⟨rfl, grown_trans (grown_none hgr hg2) (grown_sets g2 (x.cells i (i + 1)) 0 w2) (.inr fun q e => by cases e; have := EG.out; omega)⟩

/-- The token is this delimiter or reserved word. -/
def isT (x : Tk) (s : ByteArray) : Bool := (x.k == 7 || x.k == 3) && x.t.data.toList == s.data.toList

set_option maxRecDepth 100000 in
set_option maxHeartbeats 8000000 in
theorem isText_any {W : World} (x : Tk) (o e : Nat) (s : ByteArray) :
    Calls Ybaf.prog 18 #[.agg (x.cells o e).toArray, .string s] W fun e w' => e = .returned (.bool (isT x s)) ∧ W.grownBy w' none := by
  obtain ⟨g2, eg⟩ : ∃ g2, g2 = W.heap.size := ⟨_, rfl⟩
  have hb2 : Blk (W.alloc (.cells (x.cells o e).toArray 28)) g2 28 (x.cells o e) := by rw [eg]; exact Blk.new W 28 _
  have hgr : W.grownBy (W.alloc (.cells (x.cells o e).toArray 28)) none := World.grownBy_alloc _ _ _
  go_enter Ybaf.func18, Ybaf.ntmps18
  go_upto_region 1 with (fail)
  simp only [← eg]
  generalize (W.alloc (.cells (x.cells o e).toArray 28)) = w1 at hb2 hgr ⊢
  have EG := hide eg
  clear eg
  have c0 := hb2.cell (i := 0) (v := .int .u8 x.k) rfl
  have c3 := hb2.cell (i := 3) (v := .string x.t) rfl
  by_cases h7 : x.k = 7
  · go_wp2
    go_ret
    exact ⟨by simp [isT, h7, ByteArray.toList_eq], hgr⟩
  · by_cases h3 : x.k = 3
    · go_wp2
      go_ret
      exact ⟨by simp [isT, h3, ByteArray.toList_eq], hgr⟩
    · go_wp2
      go_ret
      exact ⟨by simp [isT, h3, h7], hgr⟩

set_option maxRecDepth 100000 in
set_option maxHeartbeats 8000000 in
theorem is_any {W : World} {g tb cap : Nat} {L : List Tk} {i : Nat} {dep : Int} {sub : Bool} {x : Tk} (s : ByteArray) (h : Ps W g tb cap L i dep sub) (hx : L[i]? = some x) :
    Calls Ybaf.prog 10 #[.pointer (some ⟨g, 0, none⟩), .string s] W fun e w' => e = .returned (.bool (isT x s)) ∧ W.grownBy w' none := by
  go_enter Ybaf.func10, Ybaf.ntmps10
  go_wp2_with fail
  refine (tok12_any h hx).mono ?_
  rintro e w2 ⟨rfl, hg2⟩
  go_wp2_with fail
  refine (isText_any x i (i + 1) s).mono ?_
  rintro e w3 ⟨rfl, hg3⟩
  go_wp2
  go_ret
  exact ⟨rfl, grown_none hg2 hg3⟩

/-- The parser goes on by one token. -/
structure Moved (W w' : World) (g tb cap : Nat) (L : List Tk) (i : Nat) (dep : Int) (sub : Bool) : Prop where
  ps : Ps w' g tb cap L i dep sub
  gr : W.grownBy w' (some g)

set_option maxRecDepth 100000 in
set_option maxHeartbeats 8000000 in
theorem next_any {W : World} {g tb cap : Nat} {L : List Tk} {i : Nat} {dep : Int} {sub : Bool} {x : Tk} (h : Ps W g tb cap L i dep sub) (hx : L[i]? = some x) (hi : i + 1 < L.length) :
    Calls Ybaf.prog 11 #[.pointer (some ⟨g, 0, none⟩)] W fun e w' => e = .returned (.agg (x.cells i (i + 1)).toArray) ∧ Moved W w' g tb cap L (i + 1) dep sub := by
  have hl := h.len
  obtain ⟨g2, eg⟩ : ∃ g2, g2 = W.heap.size := ⟨_, rfl⟩
  have hb2 : Blk (W.alloc (.cells #[.int .u8 0, .int .i64 0, .int .i64 0, .string { data := #[] }] 28)) g2 28 [.int .u8 0, .int .i64 0, .int .i64 0, .string { data := #[] }] := by rw [eg]; exact Blk.new W 28 _
  have hgr : W.grownBy (W.alloc (.cells #[.int .u8 0, .int .i64 0, .int .i64 0, .string { data := #[] }] 28)) none := World.grownBy_alloc _ _ _
  go_enter Ybaf.func11, Ybaf.ntmps11
  go_upto_region 1 with (fail)
  simp only [← eg]
  have hp := h.grown hgr
  generalize (W.alloc (.cells #[.int .u8 0, .int .i64 0, .int .i64 0, .string { data := #[] }] 28)) = w1 at hb2 hgr hp ⊢
  have EG := hide eg
  clear eg
  go_wp2_with fail
  refine (tok12_any hp hx).mono ?_
  rintro e w2 ⟨rfl, hg2⟩
  have hb3 := hb2.kept hg2 (by simp)
  have hp2 := hp.grown hg2
  have hbz := Blk.new w2 28 [.int .u8 0, .int .i64 0, .int .i64 0, .string { data := #[] }]
  go_upto_region 2 with (refine wpList_store_mid (by rfl) 28 _ _ (by rfl) w2.heap.size 0 (x.cells i (i + 1)).toArray (by rfl) (by rfl) (hbz.there rfl) size28 (all_oneCell_toArray (x.one _ _)) ?_)
  have hb4 := hbz.whole (l' := x.cells i (i + 1)) rfl
  have gr4 : w2.grownBy ((w2.alloc (.cells [.int .u8 0, .int .i64 0, .int .i64 0, .string { data := #[] }].toArray 28)).setCells w2.heap.size 0 (x.cells i (i + 1))) none := grown_made2 (grown_sets _ _ _ _)
  generalize ((w2.alloc (.cells [.int .u8 0, .int .i64 0, .int .i64 0, .string { data := #[] }].toArray 28)).setCells w2.heap.size 0 (x.cells i (i + 1))) = w4 at hb4 gr4 ⊢
  have hp4 := hp2.grown gr4
  have hb6 := hb3.kept gr4 (by simp)
  obtain ⟨g3, eg3⟩ : ∃ g3, g3 = w2.heap.size := ⟨_, rfl⟩
  rw [← eg3] at hb4 ⊢
  have EG3 := hide eg3
  clear eg3 hbz
  have c0 := hp4.blk.cell (i := 0) rfl
  have c1 := hp4.blk.cell (i := 1) rfl
  have f1 := hp4.blk.frozen 1
  have i0 : (0 : Int) ≤ (i : Int) := by omega
  have i1 : (i : Int) < (L.length : Int) - 1 := by omega
  have i2 : (L.length : Int) ≤ 1000000 := by omega
  have i3 : (0 : Int) ≤ (L.length : Int) := by omega
  have wr1 : IntKind.i64.wrap ((L.length : Int) - 1) = (L.length : Int) - 1 := wrap_small _ (by omega) (by omega)
  have wr2 : IntKind.i64.wrap ((i : Int) + 1) = (i : Int) + 1 := wrap_small _ (by omega) (by omega)
  go_quiet (fail)
  go_upto_region 4 with (fail)
  have n1 := h.blk.lt
  have n2 := World.block_lt_of_cell? _ _ (h.tok i x hx 0 _ rfl)
  simp only at n2
  have s1 := hgr.size
  have s2 := hg2.size
  have hgs := grown_set (w4.drewN nq) ⟨g, 1, none⟩ (.int .i64 ((i : Int) + 1))
  have hne2 : g ≠ g2 := by have := EG.out; omega
  have hb6' : Blk ((w4.drewN nq).setCell ⟨g, 1, none⟩ (.int .i64 ((i : Int) + 1))) g2 28 [.int .u8 0, .int .i64 0, .int .i64 0, .string { data := #[] }] := (hb6.drewN nq).other (by have := EG.out; simp; omega) _
  have hb4' : Blk ((w4.drewN nq).setCell ⟨g, 1, none⟩ (.int .i64 ((i : Int) + 1))) g3 28 (x.cells i (i + 1)) := (hb4.drewN nq).other (by have := EG3.out; simp; omega) _
  have hbp := (hp4.blk.drewN nq).store 1 (.int .i64 ((i : Int) + 1))
  generalize ((w4.drewN nq).setCell ⟨g, 1, none⟩ (.int .i64 ((i : Int) + 1))) = w5 at hgs hb6' hb4' hbp ⊢
  go_wp2_with (first | (refine wpList_load_mid (by rfl) 28 _ (by rfl) g3 0 (by rfl) (x.cells i (i + 1)) _ hb4'.all Ybaf.underlying28 rfl size28 ?_) | (refine wpList_store_mid (by rfl) 28 _ _ (by rfl) g2 0 (x.cells i (i + 1)).toArray (by rfl) (by rfl) (hb6'.there rfl) size28 (all_oneCell_toArray (x.one _ _)) ?_))
  have hb7 := hb6'.whole (l' := x.cells i (i + 1)) rfl
  refine bodyPost_ret (results_cell rfl rfl hb7.all _ Ybaf.underlying28 rfl size28) rfl ?_
  have hg7 := grown_sets g2 (x.cells i (i + 1)) 0 w5
  have ga : w4.grownBy w5 (some g) := ⟨hgs.os, hgs.tape, hgs.output, hgs.size, hgs.block⟩
  have gb : W.grownBy w4 none := grown_none (grown_none hgr hg2) gr4
  have gc : W.grownBy w5 (some g) := ⟨ga.os.trans gb.os, ga.tape.trans gb.tape, ga.output.trans gb.output, Nat.le_trans gb.size ga.size, fun k hk hne => (ga.block k (Nat.lt_of_lt_of_le hk gb.size) hne).trans (gb.block k hk (by simp))⟩
  refine ⟨rfl, ⟨hbp.kept hg7 (by simp; exact hne2), fun m y e => ?_, h.ne, hi, h.len⟩, grown_trans gc hg7 (.inr fun q e => by cases e; have := EG.out; omega)⟩
  have nb := World.block_lt_of_cell? _ _ (h.tok m y e 0 _ rfl)
  simp only at nb
  exact grown_range hg7 (grown_range gc (h.tok m y e) (by have := h.ne; simpa using this)) (by have := EG.out; simp; omega)

set_option maxRecDepth 100000 in
set_option maxHeartbeats 8000000 in
theorem accept_yes {W : World} {g tb cap : Nat} {L : List Tk} {i : Nat} {dep : Int} {sub : Bool} {x : Tk} (s : ByteArray) (h : Ps W g tb cap L i dep sub) (hx : L[i]? = some x) (hi : i + 1 < L.length) (hs : isT x s = true) :
    Calls Ybaf.prog 8 #[.pointer (some ⟨g, 0, none⟩), .string s] W fun e w' => e = .returned (.bool true) ∧ Moved W w' g tb cap L (i + 1) dep sub := by
  go_enter Ybaf.func8, Ybaf.ntmps8
  go_wp2_with fail
  refine (is_any s h hx).mono ?_
  rintro e w2 ⟨rfl, hg2⟩
  rw [hs]
  go_wp2_with fail
  refine (next_any (h.grown hg2) hx hi).mono ?_
  rintro e w3 ⟨rfl, hp3, hg3⟩
  go_wp2
  go_ret
  exact ⟨rfl, hp3, ⟨hg3.os.trans hg2.os, hg3.tape.trans hg2.tape, hg3.output.trans hg2.output, Nat.le_trans hg2.size hg3.size, fun k hk hne => (hg3.block k (Nat.lt_of_lt_of_le hk hg2.size) hne).trans (hg2.block k hk (by simp))⟩⟩

set_option maxRecDepth 100000 in
set_option maxHeartbeats 8000000 in
theorem accept_no {W : World} {g tb cap : Nat} {L : List Tk} {i : Nat} {dep : Int} {sub : Bool} {x : Tk} (s : ByteArray) (h : Ps W g tb cap L i dep sub) (hx : L[i]? = some x) (hs : isT x s = false) :
    Calls Ybaf.prog 8 #[.pointer (some ⟨g, 0, none⟩), .string s] W fun e w' => e = .returned (.bool false) ∧ W.grownBy w' none := by
  go_enter Ybaf.func8, Ybaf.ntmps8
  go_wp2_with fail
  refine (is_any s h hx).mono ?_
  rintro e w2 ⟨rfl, hg2⟩
  rw [hs]
  go_wp2
  go_ret
  exact ⟨rfl, hg2⟩

set_option maxRecDepth 100000 in
set_option maxHeartbeats 8000000 in
theorem isAny_any {W : World} {g tb cap : Nat} {L : List Tk} {i : Nat} {dep : Int} {sub : Bool} {x : Tk} (sb c : Nat) (ss : List ByteArray) (h : Ps W g tb cap L i dep sub) (hx : L[i]? = some x) (hb : Blk W sb 9 (ss.map .string)) (hl : ss.length ≤ 5) :
    Calls Ybaf.prog 20 #[.pointer (some ⟨g, 0, none⟩), .slice (some ⟨sb, 0, none⟩) ss.length c] W fun e w' => e = .returned (.bool (ss.any (isT x))) ∧ W.grownBy w' none := by
  have t0 : (0 : Int) ≤ (ss.length : Int) := by omega
  have t1 : (ss.length : Int) ≤ 5 := by omega
  go_enter Ybaf.func20, Ybaf.ntmps20
  go_wp2_with fail
  go_loopw [6, 9] (fun _ y W' => ∃ j : Nat, y = .int .i64 (j : Int) ∧ j ≤ ss.length ∧ (ss.take j).any (isT x) = false ∧ W.grownBy W' none) (fun _ y _ => ss.length - (intOf y).toNat)
  case atStart => exact ⟨0, rfl, by omega, rfl, grown_refl _ _⟩
  case round =>
    obtain ⟨j, rfl, hj, hno, hgr⟩ := hrel
    have j0 : (0 : Int) ≤ (j : Int) := by omega
    by_cases hlt : j < ss.length
    · have j1 : (j : Int) < (ss.length : Int) := by omega
      have q0 := (hb.kept hgr (by simp)).cell (i := j) (v := .string (ss[j]'hlt)) (by simp [List.getElem?_eq_getElem hlt])
      obtain ⟨s, es⟩ : ∃ s, s = ss[j]'hlt := ⟨_, rfl⟩
      rw [← es] at q0
      have ES := hide es
      clear es
      go_wp2_with fail
      refine (is_any s (h.grown hgr) hx).mono ?_
      rintro e w2 ⟨rfl, hg2⟩
      cases hs : isT x s with
      | true =>
        go_wp2
        go_ret
        refine ⟨?_, grown_none hgr hg2⟩
        rw [show ss.any (isT x) = true from List.any_eq_true.2 ⟨ss[j]'hlt, List.getElem_mem _, by rw [← ES.out]; exact hs⟩]
        rfl
      | false =>
        go_wp2
        refine ⟨⟨j + 1, by go_num, by omega, ?_, grown_none hgr hg2⟩, by simp [intOf]; omega⟩
        rw [List.take_succ_eq_append_getElem hlt, List.any_append, hno, ← ES.out]
        simpa using hs
    · have j1 : ¬ (j : Int) < (ss.length : Int) := by omega
      obtain rfl : j = ss.length := by omega
      rw [List.take_length] at hno
      go_wp2
      go_ret
      exact ⟨rfl, hgr⟩
end Go.Proofs.YbulkfhveFmtR.A
