/-
  Quintets: the copy, the constructor.
-/
import Derived.Test.YbulkfhtoFmtAFmt
import Derived.Deep.RegionHeld3
namespace Go.Proofs.YbulkfhtoFmt.A
open Go.RowKit
attribute [local go_sem ↓] Go.wp_at_zero Go.wp_at_succ

structure Qn where
  r : List UInt8
  pa : Option Addr
  t : List UInt8
  pc : Nat
  c : List UInt8
  i : List UInt8
  a : List UInt8
/-- The 65 cells. -/
def Qn.cells (q : Qn) : List Value := bc q.r ++ (.slice q.pa q.t.length q.pc :: (bc q.c ++ (bc q.i ++ bc q.a)))
structure Qn.Ok (q : Qn) : Prop where
  hr : q.r.length = 16
  hc : q.c.length = 16
  hi : q.i.length = 16
  ha : q.a.length = 16
  nil : q.pa = none → q.t = []
  len : q.t.length ≤ 1048576
theorem Qn.Ok.size {q : Qn} (h : q.Ok) : q.cells.length = 65 := by simp [Qn.cells, bc_length, h.hr, h.hc, h.hi, h.ha]

theorem build36 (w : World) (r c i a : List UInt8) (x : Option Addr) (n p : Nat) (h1 : r.length = 16) (h2 : c.length = 16) (h3 : i.length = 16) (h4 : a.length = 16) :
    (Instr.build 36 #[(0, .agg (bc r).toArray), (1, .slice x n p), (2, .agg (bc c).toArray), (3, .agg (bc i).toArray), (4, .agg (bc a).toArray)]).run Ybaf.prog w = .ok (.agg (bc r ++ (.slice x n p :: (bc c ++ (bc i ++ bc a)))).toArray) w := by
  obtain ⟨a0, a1, a2, a3, a4, a5, a6, a7, a8, a9, a10, a11, a12, a13, a14, a15, rfl⟩ := list16 r h1
  obtain ⟨b0, b1, b2, b3, b4, b5, b6, b7, b8, b9, b10, b11, b12, b13, b14, b15, rfl⟩ := list16 c h2
  obtain ⟨c0, c1, c2, c3, c4, c5, c6, c7, c8, c9, c10, c11, c12, c13, c14, c15, rfl⟩ := list16 i h3
  obtain ⟨d0, d1, d2, d3, d4, d5, d6, d7, d8, d9, d10, d11, d12, d13, d14, d15, rfl⟩ := list16 a h4
  kernel_rfl

theorem eq25n (w : World) : (binOp .eql 25 (.slice none 0 0) (.slice none 0 0)).run Ybaf.prog w = .ok (.bool true) w := by kernel_rfl
theorem eq25s (a : Addr) (n c : Nat) (w : World) : (binOp .eql 25 (.slice (some a) n c) (.slice none 0 0)).run Ybaf.prog w = .ok (.bool false) w := by kernel_rfl
theorem info22 : (Ybaf.prog.info? 22).map (·.size) = some 16 := by kernel_rfl
theorem info27 : (Ybaf.prog.info? 27).map (·.size) = some 65 := by kernel_rfl
theorem info36 : (Ybaf.prog.info? 36).map (·.size) = some 65 := by kernel_rfl

/-- A slice of bytes that came in, or a copy of one. -/
structure Xs (W : World) (pa : Option Addr) (t : List UInt8) (pc : Nat) : Prop where
  nil : pa = none → t = [] ∧ pc = 0
  cell : ∀ x, pa = some x → ∀ j u, (bc t)[j]? = some u → W.cell? (x.add j) = some u
theorem Xs.bytes {W : World} {pa : Option Addr} {t : List UInt8} {pc : Nat} (h : Xs W pa t pc) : Bytes W pa t := by
  refine ⟨fun h0 => ?_, fun b off e i hi => ?_⟩
  · cases hp : pa with
    | none => rw [(h.nil hp).1] at h0; simp at h0
    | some x =>
      obtain ⟨b, off, spot⟩ := x
      have hc := h.cell _ hp 0 _ (bc_get t h0)
      have hspot : spot = none := by simpa [Addr.add] using World.cell?_spot hc
      exact ⟨b, off, by rw [hspot]⟩
  · have := h.cell _ e i _ (bc_get t hi)
    rwa [Addr.add_mid] at this
theorem add_block (x : Addr) (j : Nat) : (x.add j).block = x.block := by unfold Addr.add; split <;> rfl
theorem Xs.kept {W W' : World} {pa : Option Addr} {t : List UInt8} {pc : Nat} {row : Option Nat} (h : Xs W pa t pc) (hg : W.grownBy W' row) (hne : ∀ x, pa = some x → some x.block ≠ row) : Xs W' pa t pc :=
  ⟨h.nil, fun x e j u hu => hg.cell (h.cell x e j u hu) (by rw [add_block]; exact hne x e)⟩
theorem Xs.grown {W W' : World} {pa : Option Addr} {t : List UInt8} {pc : Nat} (h : Xs W pa t pc) (hg : W.grownBy W' none) : Xs W' pa t pc := h.kept hg fun _ _ => by simp

set_option maxRecDepth 100000 in
set_option maxHeartbeats 8000000 in
theorem copy_any {W : World} {pa : Option Addr} {t : List UInt8} {pc : Nat} (hs : Xs W pa t pc) (hl : t.length ≤ 1048576) :
    Calls Ybaf.prog 12 #[.slice pa t.length pc] W fun e w' => ∃ pa' pc', e = .returned (.slice pa' t.length pc') ∧ Xs w' pa' t pc' ∧ (pa' = none ↔ pa = none) ∧ (∀ x, pa' = some x → W.heap.size ≤ x.block ∧ x.block < w'.heap.size) ∧ Below W.heap.size W w' := by
  cases hpa : pa with
  | none =>
    obtain ⟨e1, e2⟩ := hs.nil hpa
    subst e1 e2
    have q1 := eq25n
    go_enter Ybaf.func12, Ybaf.ntmps12
    go_wp2
    go_ret
    exact ⟨none, 0, rfl, ⟨fun _ => ⟨rfl, rfl⟩, fun x e => by simp at e⟩, by simp, fun x e => by simp at e, Below.refl _ _⟩
  | some x =>
    have hc : ∀ j u, (bc t)[j]? = some u → (W.alloc (Obj.cells #[] 5)).cell? (x.add j) = some u := fun j u hu => (World.grownBy_alloc W _ none).cell (hs.cell x hpa j u hu) (by simp)
    have hr0 : Row (W.alloc (Obj.cells #[] 5)) W.heap.size (.slice (some ⟨W.heap.size, 0, none⟩) 0 0) [] := World.ownsRow_made W #[] 0 (Nat.le_refl _) (by simp [maxLen]) rfl
    have q1 := eq25s
    go_enter Ybaf.func12, Ybaf.ntmps12
    go_wp2_with (at_builtin; refine app_sl (v := .slice (some ⟨W.heap.size, 0, none⟩) 0 0) rfl _ _ rfl rfl hr0 t _ _ rfl hc (by simp; omega) (by simp) ?_; intro v2 w2 hr2 hg2 hn2 ho2)
    rw [List.nil_append] at hr2
    obtain ⟨va, vc, rfl⟩ := hr2.form
    have hg3 := grown_made hg2
    have hb3 : Below W.heap.size W w2 := Below.grown ((Below.refl _ W).alloc (Nat.le_refl _) _) hg2 (by simp) (fun k e => by simp [Value.ownBlock] at e; omega)
    cases va with
    | none => simp [Value.ownBlock] at ho2
    | some y =>
      rcases hr2.2 with ⟨e, _⟩ | ⟨g, cap, cur, e, hgB, hh, _⟩
      · simp at e
      · cases e
        have hlt : g < w2.heap.size := (Array.getElem?_eq_some_iff.1 hh).1
        have hcells := World.ownsRow.cells hr2 (g := g) rfl
        go_ret
        exact ⟨_, _, rfl, ⟨fun e => by simp at e, fun x e j u hu => by cases e; exact hcells j u hu⟩, by simp, fun x e => by cases e; exact ⟨hgB, hlt⟩, hb3⟩

/-! ### the parts of a quintet that lies in a block -/
section
variable {W : World} {g ty : Nat} {q : Qn}
theorem Qn.rr (hb : Blk W g ty q.cells) : W.rangeAt g 0 (bc q.r) := hb.range 0 (by simp [Qn.cells, bc_length])
theorem Qn.rc (h : q.Ok) (hb : Blk W g ty q.cells) : W.rangeAt g 17 (bc q.c) := hb.range 17 (by
  have e : q.cells = (bc q.r ++ [.slice q.pa q.t.length q.pc]) ++ (bc q.c ++ (bc q.i ++ bc q.a)) := by simp [Qn.cells]
  rw [e, List.drop_left' (by simp [bc_length, h.hr])]; simp)
theorem Qn.ri (h : q.Ok) (hb : Blk W g ty q.cells) : W.rangeAt g 33 (bc q.i) := hb.range 33 (by
  have e : q.cells = (bc q.r ++ (.slice q.pa q.t.length q.pc :: bc q.c)) ++ (bc q.i ++ bc q.a) := by simp [Qn.cells]
  rw [e, List.drop_left' (by simp [bc_length, h.hr, h.hc])]; simp)
theorem Qn.ra (h : q.Ok) (hb : Blk W g ty q.cells) : W.rangeAt g 49 (bc q.a) := hb.range 49 (by
  have e : q.cells = (bc q.r ++ (.slice q.pa q.t.length q.pc :: (bc q.c ++ bc q.i))) ++ bc q.a := by simp [Qn.cells]
  rw [e, List.drop_left' (by simp [bc_length, h.hr, h.hc, h.hi])]; simp)
theorem Qn.rx (h : q.Ok) (hb : Blk W g ty q.cells) : W.cell? ⟨g, 16, none⟩ = some (.slice q.pa q.t.length q.pc) := hb.cell (by
  unfold Qn.cells
  rw [List.getElem?_append_right (by simp [bc_length, h.hr])]
  simp [bc_length, h.hr])
/-- The load of an array of 16 bytes. -/
theorem load22 {o : Nat} {l : List UInt8} (h : l.length = 16) (hr : W.rangeAt g o (bc l)) : (Instr.loadAt 22 (.pointer (some ⟨g, o, none⟩))).run Ybaf.prog W = .ok (.agg (bc l).toArray) W :=
  run_loadAt_mid W g o 22 (bc l) _ hr Ybaf.underlying22 rfl (by rw [bc_length, h]; exact info22)
end

theorem limbs {W : World} {g ty : Nat} {q : Qn} (hq : q.Ok) (h : Blk W g ty q.cells) : W.rangeAt g 0 (bc q.r) ∧ W.rangeAt g 17 (bc q.c) ∧ W.rangeAt g 33 (bc q.i) ∧ W.rangeAt g 49 (bc q.a) ∧ W.cell? ⟨g, 16, none⟩ = some (.slice q.pa q.t.length q.pc) := ⟨Qn.rr h, Qn.rc hq h, Qn.ri hq h, Qn.ra hq h, Qn.rx hq h⟩
theorem limbs2 {W : World} {g g' ty ty' : Nat} {q : Qn} {l : List Value} (hq : q.Ok) (h : Blk W g ty q.cells) (h' : Blk W g' ty' l) (hl : l.length = 65) : W.rangeAt g 0 (bc q.r) ∧ W.rangeAt g 17 (bc q.c) ∧ W.rangeAt g 33 (bc q.i) ∧ W.rangeAt g 49 (bc q.a) ∧ W.cell? ⟨g, 16, none⟩ = some (.slice q.pa q.t.length q.pc) ∧ W.there g' 0 65 :=
  ⟨Qn.rr h, Qn.rc hq h, Qn.ri hq h, Qn.ra hq h, Qn.rx hq h, fun j hj => by rw [Nat.zero_add]; exact ⟨by rw [h'.cell (List.getElem?_eq_getElem (by rw [hl]; exact hj))]; rfl, h'.frozen j⟩⟩
def Qn.zero : Qn := ⟨List.replicate 16 0, none, [], 0, List.replicate 16 0, List.replicate 16 0, List.replicate 16 0⟩
theorem zero36 (w : World) : (zeroValue 36).run Ybaf.prog w = .ok (.agg Qn.zero.cells.toArray) w := by kernel_rfl
theorem cells_one (q : Qn) : ∀ v ∈ q.cells, v.oneCell' = true := by
  intro v hv
  simp only [Qn.cells, List.mem_append, List.mem_cons] at hv
  rcases hv with h | rfl | h | h | h
  · exact bc_one _ _ h
  · rfl
  · exact bc_one _ _ h
  · exact bc_one _ _ h
  · exact bc_one _ _ h
theorem zero_ok : Qn.zero.Ok := ⟨rfl, rfl, rfl, rfl, fun _ => rfl, by decide⟩

theorem mk_ok {q : Qn} (hq : q.Ok) (pa : Option Addr) (pc : Nat) : (bc q.r ++ Value.slice pa q.t.length pc :: (bc q.c ++ (bc q.i ++ bc q.a))).length = 65 ∧ (Ybaf.prog.info? 36).map (·.size) = some (bc q.r ++ Value.slice pa q.t.length pc :: (bc q.c ++ (bc q.i ++ bc q.a))).length ∧ ∀ v ∈ bc q.r ++ Value.slice pa q.t.length pc :: (bc q.c ++ (bc q.i ++ bc q.a)), v.oneCell' = true := by
  have h : (bc q.r ++ Value.slice pa q.t.length pc :: (bc q.c ++ (bc q.i ++ bc q.a))).length = 65 := by simp [bc_length, hq.hr, hq.hc, hq.hi, hq.ha]
  refine ⟨h, by rw [h]; exact info36, cells_one ⟨q.r, pa, q.t, pc, q.c, q.i, q.a⟩⟩
theorem yieldsIf_build {P : Program} {ops : Array Oper} {S : World → Prop} {op : Oper} {a : Act} (hw : Region.wanted op (yielded ops a.tmps) = true) (t : TypeId) (parts : Array (Nat × Operand)) (ho : op.op = .build t parts)
    (ps : Array (Nat × Value)) (hp : parts.toList.map (fun p => (p.1, a.eval p.2)) = ps.toList) (v : Value) (h : ∀ w, (Instr.build t ps).run P w = .ok v w) : YieldsIf P ops S op v a :=
  .inl ⟨hw, fun w _ => by
    have e : parts.map (fun (p : Nat × Operand) => (p.1, a.eval p.2)) = ps := Array.ext' (by rw [Array.toList_map]; exact hp)
    unfold execOp
    simp only [ho]
    rw [e, Sem.run_bind, h w]
    rfl⟩
/-- What a function hands back that holds its result in a cell. -/
theorem results_cell {fn : Func} {p : Tmp} {ty : TypeId} (h : fn.results = #[.cell p ty]) {tmps : Array Value} {w : World} {g : Nat} (hp : tmps.getD p undef = .pointer (some ⟨g, 0, none⟩)) {cs : List Value} (hc : w.rangeAt g 0 cs) (d : TypeDesc)
    (hu : Ybaf.prog.underlying ty = some d) (hd : d.isRow = true) (hi : (Ybaf.prog.info? ty).map (·.size) = some cs.length) : (results fn tmps).run Ybaf.prog w = .ok (.agg cs.toArray) w := by
  have hp' : tmps[p]?.getD undef = .pointer (some ⟨g, 0, none⟩) := by simpa using hp
  have hl := run_loadVar_mid w g 0 ty cs d hc hu hd hi
  simp [results, h, hp', asAddr, hl]

set_option maxRecDepth 100000 in
set_option maxHeartbeats 8000000 in
theorem mk_any {W : World} {q : Qn} (hq : q.Ok) (hs : Xs W q.pa q.t q.pc) :
    Calls Ybaf.prog 4 #[.agg q.cells.toArray] W fun e w' => ∃ pa' pc', e = .returned (.agg ({ q with pa := pa', pc := pc' } : Qn).cells.toArray) ∧ Xs w' pa' q.t pc' ∧ (pa' = none ↔ q.pa = none) ∧ (∀ x, pa' = some x → W.heap.size ≤ x.block ∧ x.block < w'.heap.size) ∧ Below W.heap.size W w' := by
  have z36 := zero36
  go_enter Ybaf.func4, Ybaf.ntmps4
  go_upto_region 1 with (fail)
  obtain ⟨g, eg⟩ : ∃ g, g = W.heap.size := ⟨_, rfl⟩
  have hb1 : Blk ((W.alloc (.cells q.cells.toArray 27)).alloc (.cells Qn.zero.cells.toArray 36)) g 27 q.cells := by rw [eg]; exact (Blk.new W 27 q.cells).alloc _
  have hb2 : Blk ((W.alloc (.cells q.cells.toArray 27)).alloc (.cells Qn.zero.cells.toArray 36)) (g + 1) 36 Qn.zero.cells := by
    have := Blk.new (W.alloc (.cells q.cells.toArray 27)) 36 Qn.zero.cells
    rw [World.size_alloc, ← eg] at this
    exact this
  have hbel : Below W.heap.size W ((W.alloc (.cells q.cells.toArray 27)).alloc (.cells Qn.zero.cells.toArray 36)) := ((Below.refl _ W).alloc (Nat.le_refl _) _).alloc (by simp) _
  simp only [← eg]
  have hsz : ((W.alloc (.cells q.cells.toArray 27)).alloc (.cells Qn.zero.cells.toArray 36)).heap.size = g + 2 := by simp [← eg]
  generalize ((W.alloc (.cells q.cells.toArray 27)).alloc (.cells Qn.zero.cells.toArray 36)) = w2 at hb1 hb2 hbel hsz ⊢
  clear z36
  have u22 := Ybaf.underlying22
  have z1 : (Ybaf.prog.info? 22).map (·.size) = some (bc q.r).length := by rw [bc_length, hq.hr]; exact info22
  have z2 : (Ybaf.prog.info? 22).map (·.size) = some (bc q.c).length := by rw [bc_length, hq.hc]; exact info22
  have z3 : (Ybaf.prog.info? 22).map (·.size) = some (bc q.i).length := by rw [bc_length, hq.hi]; exact info22
  have z4 : (Ybaf.prog.info? 22).map (·.size) = some (bc q.a).length := by rw [bc_length, hq.ha]; exact info22
  have hbd := fun (w : World) x n p => build36 w q.r q.c q.i q.a x n p hq.hr hq.hc hq.hi hq.ha
  have hS2 := limbs2 hq hb1 hb2 zero_ok.size
  have HCP := hide (copy_any (W := w2.drew) (pc := q.pc) (hs.grown (grown_drew (below_size hbel))) hq.len)
  have HB1 := hide hb1
  have HB2 := hide hb2
  have EG := hide eg
  have l1 : (bc q.r).length = 16 := by rw [bc_length, hq.hr]
  have l2 : (bc q.c).length = 16 := by rw [bc_length, hq.hc]
  have l3 : (bc q.i).length = 16 := by rw [bc_length, hq.hi]
  have l4 : (bc q.a).length = 16 := by rw [bc_length, hq.ha]
  clear hb1 hb2 eg
  refine wp_region_noPanic ?_
  refine wp_region_held_drew (S := fun w' => w'.rangeAt g 0 (bc q.r) ∧ w'.rangeAt g 17 (bc q.c) ∧ w'.rangeAt g 33 (bc q.i) ∧ w'.rangeAt g 49 (bc q.a) ∧ w'.cell? ⟨g, 16, none⟩ = some (.slice q.pa q.t.length q.pc) ∧ w'.there (g + 1) 0 65) (by kernel_rfl) hS2 (fun hH => ?_)
  refine wpAnyH_take (i := 0) (oi := { dst := some 3, op := Op.fieldAddr 27 (Operand.tmp 1) 0, type := 0, pos := "zz_law_s7957a.go:76", after := #[], guard := none }) (v := .pointer (some ⟨g, 0, none⟩)) rfl (by kernel_rfl) (by kernel_rfl) (by kernel_rfl) (fun _ _ _ h => h) (Or.inl ⟨by rfl, ?_⟩) (by assumption) ?_
  · intro w hSw; go_simp
  simp only [Act.put, List.setIfInBounds_toArray, List.set_cons_zero, List.set_cons_succ]
  refine wpAnyH_take (i := 1) (oi := { dst := some 4, op := Op.load 22 (Operand.tmp 3), type := 22, pos := "zz_law_s7957a.go:76", after := #[{ on := 0, ground := Ground.data }], guard := none }) (v := .agg (bc q.r).toArray) rfl (by kernel_rfl) (by kernel_rfl) (by kernel_rfl) (fun _ _ _ h => h) (yieldsIf_load_mid (by rfl) _ _ rfl _ _ rfl (bc q.r) _ (fun w h => h.1) u22 rfl z1) (by assumption) ?_
  simp only [Act.put, List.setIfInBounds_toArray, List.set_cons_zero, List.set_cons_succ]
  refine wpAnyH_take (i := 2) (oi := { dst := some 5, op := Op.fieldAddr 27 (Operand.tmp 1) 1, type := 0, pos := "zz_law_s7957a.go:76", after := #[], guard := none }) (v := .pointer (some ⟨g, 16, none⟩)) rfl (by kernel_rfl) (by kernel_rfl) (by kernel_rfl) (fun _ _ _ h => h) (Or.inl ⟨by rfl, ?_⟩) (by assumption) ?_
  · intro w hSw; go_simp
  simp only [Act.put, List.setIfInBounds_toArray, List.set_cons_zero, List.set_cons_succ]
  refine wpAnyH_take (i := 3) (oi := { dst := some 6, op := Op.load 25 (Operand.tmp 5), type := 25, pos := "zz_law_s7957a.go:76", after := #[{ on := 2, ground := Ground.data }], guard := none }) (v := .slice q.pa q.t.length q.pc) rfl (by kernel_rfl) (by kernel_rfl) (by kernel_rfl) (fun _ _ _ h => h) (Or.inl ⟨by rfl, ?_⟩) (by assumption) ?_
  · intro w hSw; go_simp
  simp only [Act.put, List.setIfInBounds_toArray, List.set_cons_zero, List.set_cons_succ]
  refine wpAnyH_take (i := 5) (oi := { dst := some 8, op := Op.fieldAddr 27 (Operand.tmp 1) 2, type := 0, pos := "zz_law_s7957a.go:76", after := #[], guard := none }) (v := .pointer (some ⟨g, 17, none⟩)) rfl (by kernel_rfl) (by kernel_rfl) (by kernel_rfl) (fun _ _ _ h => h) (Or.inl ⟨by rfl, ?_⟩) (by assumption) ?_
  · intro w hSw; go_simp
  simp only [Act.put, List.setIfInBounds_toArray, List.set_cons_zero, List.set_cons_succ]
  refine wpAnyH_take (i := 6) (oi := { dst := some 9, op := Op.load 22 (Operand.tmp 8), type := 22, pos := "zz_law_s7957a.go:76", after := #[{ on := 5, ground := Ground.data }], guard := none }) (v := .agg (bc q.c).toArray) rfl (by kernel_rfl) (by kernel_rfl) (by kernel_rfl) (fun _ _ _ h => h) (yieldsIf_load_mid (by rfl) _ _ rfl _ _ rfl (bc q.c) _ (fun w h => h.2.1) u22 rfl z2) (by assumption) ?_
  simp only [Act.put, List.setIfInBounds_toArray, List.set_cons_zero, List.set_cons_succ]
  refine wpAnyH_take (i := 7) (oi := { dst := some 10, op := Op.fieldAddr 27 (Operand.tmp 1) 3, type := 0, pos := "zz_law_s7957a.go:76", after := #[], guard := none }) (v := .pointer (some ⟨g, 33, none⟩)) rfl (by kernel_rfl) (by kernel_rfl) (by kernel_rfl) (fun _ _ _ h => h) (Or.inl ⟨by rfl, ?_⟩) (by assumption) ?_
  · intro w hSw; go_simp
  simp only [Act.put, List.setIfInBounds_toArray, List.set_cons_zero, List.set_cons_succ]
  refine wpAnyH_take (i := 8) (oi := { dst := some 11, op := Op.load 22 (Operand.tmp 10), type := 22, pos := "zz_law_s7957a.go:76", after := #[{ on := 7, ground := Ground.data }], guard := none }) (v := .agg (bc q.i).toArray) rfl (by kernel_rfl) (by kernel_rfl) (by kernel_rfl) (fun _ _ _ h => h) (yieldsIf_load_mid (by rfl) _ _ rfl _ _ rfl (bc q.i) _ (fun w h => h.2.2.1) u22 rfl z3) (by assumption) ?_
  simp only [Act.put, List.setIfInBounds_toArray, List.set_cons_zero, List.set_cons_succ]
  refine wpAnyH_take (i := 9) (oi := { dst := some 12, op := Op.fieldAddr 27 (Operand.tmp 1) 4, type := 0, pos := "zz_law_s7957a.go:76", after := #[], guard := none }) (v := .pointer (some ⟨g, 49, none⟩)) rfl (by kernel_rfl) (by kernel_rfl) (by kernel_rfl) (fun _ _ _ h => h) (Or.inl ⟨by rfl, ?_⟩) (by assumption) ?_
  · intro w hSw; go_simp
  simp only [Act.put, List.setIfInBounds_toArray, List.set_cons_zero, List.set_cons_succ]
  refine wpAnyH_take (i := 10) (oi := { dst := some 13, op := Op.load 22 (Operand.tmp 12), type := 22, pos := "zz_law_s7957a.go:76", after := #[{ on := 9, ground := Ground.data }], guard := none }) (v := .agg (bc q.a).toArray) rfl (by kernel_rfl) (by kernel_rfl) (by kernel_rfl) (fun _ _ _ h => h) (yieldsIf_load_mid (by rfl) _ _ rfl _ _ rfl (bc q.a) _ (fun w h => h.2.2.2.1) u22 rfl z4) (by assumption) ?_
  simp only [Act.put, List.setIfInBounds_toArray, List.set_cons_zero, List.set_cons_succ]
  refine wpAnyH_ready (rs := [4]) (by kernel_rfl) (by simp) ?_
  refine AllReadyH.cons (o := { dst := some 7, op := Op.call { callee := Callee.value (Operand.func 12), args := #[Operand.tmp 6], argTypes := #[25] }, type := 25, pos := "zz_law_s7957a.go:76", after := #[{ on := 3, ground := Ground.data }], guard := none }) rfl (fun K hK => ?_) AllReadyH.nil
  go_wp2_with fail
  refine HCP.out.mono ?_
  rintro e w3 ⟨pa', pc', rfl, hx', hnil', hnew', hbel'⟩
  have hb3 := HB1.out.drew.below hbel' (by simp; omega)
  have hb4 := HB2.out.drew.below hbel' (by simp; omega)
  refine hK.out _ _ (limbs2 hq hb3 hb4 zero_ok.size) (fun hHeld => ?_)
  clear hK K
  refine wpAnyH_take (i := 11) (oi := { dst := some 14, op := Op.build 36 #[(0, Operand.tmp 4), (1, Operand.tmp 7), (2, Operand.tmp 9), (3, Operand.tmp 11), (4, Operand.tmp 13)], type := 36, pos := "zz_law_s7957a.go:76", after := #[{ on := 1, ground := Ground.data }, { on := 4, ground := Ground.data }, { on := 6, ground := Ground.data }, { on := 8, ground := Ground.data }, { on := 10, ground := Ground.data }], guard := none }) (v := .agg (bc q.r ++ Value.slice pa' q.t.length pc' :: (bc q.c ++ (bc q.i ++ bc q.a))).toArray) rfl (by kernel_rfl) (by kernel_rfl) (by kernel_rfl) (fun _ _ _ h => h) (yieldsIf_build (by rfl) _ _ rfl #[(0, .agg (bc q.r).toArray), (1, .slice pa' q.t.length pc'), (2, .agg (bc q.c).toArray), (3, .agg (bc q.i).toArray), (4, .agg (bc q.a).toArray)] rfl _ (fun w => hbd w _ _ _)) (by assumption) ?_
  simp only [Act.put, List.setIfInBounds_toArray, List.set_cons_zero, List.set_cons_succ]
  refine wpAnyH_ready (rs := [12]) (by kernel_rfl) (by simp) ?_
  refine AllReadyH.cons (o := { dst := none, op := Op.store 36 (Operand.tmp 2) (Operand.tmp 14), type := 0, pos := "zz_law_s7957a.go:76", after := #[{ on := 11, ground := Ground.data }, { on := 4, ground := Ground.chain }, { on := 0, ground := Ground.phase }, { on := 1, ground := Ground.phase }, { on := 2, ground := Ground.phase }, { on := 3, ground := Ground.phase }, { on := 4, ground := Ground.phase }, { on := 5, ground := Ground.phase }, { on := 6, ground := Ground.phase }, { on := 7, ground := Ground.phase }, { on := 8, ground := Ground.phase }, { on := 9, ground := Ground.phase }, { on := 10, ground := Ground.phase }, { on := 11, ground := Ground.phase }], guard := none }) rfl (fun K hK => ?_) AllReadyH.nil
  rw [if_pos (by rfl)]
  refine wp_store_mid _ _ _ rfl (g + 1) 0 (bc q.r ++ Value.slice pa' q.t.length pc' :: (bc q.c ++ (bc q.i ++ bc q.a))).toArray rfl rfl (by rw [List.size_toArray, (mk_ok hq pa' pc').1]; exact hHeld.2.2.2.2.2) (by rw [List.size_toArray]; exact (mk_ok hq pa' pc').2.1) (all_oneCell_toArray (mk_ok hq pa' pc').2.2) ?_
  have hb5 := hb4.whole (l' := (⟨q.r, pa', q.t, pc', q.c, q.i, q.a⟩ : Qn).cells) (by rw [zero_ok.size]; exact (mk_ok hq pa' pc').1)
  have hb6 : Blk (w3.setCells (g + 1) 0 (⟨q.r, pa', q.t, pc', q.c, q.i, q.a⟩ : Qn).cells) g 27 q.cells := hb3.kept (grown_sets _ _ _ _) (by simp)
  refine hK.out _ _ (limbs2 hq hb6 hb5 (mk_ok hq pa' pc').1) (fun hHeld' => ?_)
  clear hK K
  refine wpAnyH_done (by kernel_rfl) ?_ _
  refine NoPanic.normal ?_
  go_wp2
  refine bodyPost_ret (results_cell rfl rfl (hb5.range 0 (cs := (⟨q.r, pa', q.t, pc', q.c, q.i, q.a⟩ : Qn).cells) (by simp)) _ Ybaf.underlying36 rfl (mk_ok hq pa' pc').2.1) rfl ?_
  have hgs := grown_sets (g + 1) (⟨q.r, pa', q.t, pc', q.c, q.i, q.a⟩ : Qn).cells 0 w3
  have eg := EG.out
  have e2 : w2.drew.heap.size = g + 2 := hsz
  refine ⟨pa', pc', rfl, hx'.kept hgs (fun x e => ?_), hnil', fun x e => ?_, below_sets (by omega) _ _ (hbel.drew.trans (hbel'.mono (by omega)))⟩
  · have := (hnew' x e).1
    simp
    omega
  · have := hnew' x e
    exact ⟨by omega, Nat.lt_of_lt_of_le this.2 hgs.size⟩
end Go.Proofs.YbulkfhtoFmt.A
