/-
  marshalNode.
-/
import Derived.Test.YbulkfhtoFmtALine
import Derived.Test.YbulkfhtoFmtANode
namespace Go.Proofs.YbulkfhtoFmt.A
open Go.RowKit Go.Extern.Stop Go.Stop Go.Extern
attribute [local go_sem ↓] Go.wp_at_zero Go.wp_at_succ

/-- What a node holds. -/
structure Nod where
  x : Int
  rs : Bool
  ctx : Option (List UInt8 × List UInt8 × Int)
  out : Option (Qn × Int)
  m : Nat
  qs : Nat → Qn

def tVec (q : Qn) : List UInt8 := sVec ++ tQuin q.r q.t q.c q.i q.a ++ [10]
def tVecs (qs : Nat → Qn) : Nat → List UInt8
  | 0 => []
  | j + 1 => tVecs qs j ++ tVec (qs j)
def tOut : Option (Qn × Int) → List UInt8
  | none => []
  | some (q, k) => sChal ++ tQuin q.r q.t q.c q.i q.a ++ tKsi k
def tCon : Option (List UInt8 × List UInt8 × Int) → List UInt8
  | none => []
  | some (ck, ik, k) => tCtx ck ik k
/-- The state file's body. -/
def tNode (d : Nod) : List UInt8 := tFields d.x d.rs ++ tCon d.ctx ++ tOut d.out ++ tVecs d.qs d.m

/-- Where it lies. -/
structure Pl where
  n : Nat
  vh : Value
  co : Nat
  oo : Nat
  vb : Nat

def cVal (d : Nod) (p : Pl) : Value := match d.ctx with
  | none => .pointer none
  | some _ => .pointer (some ⟨p.co, 0, none⟩)
def oVal (d : Nod) (p : Pl) : Value := match d.out with
  | none => .pointer none
  | some _ => .pointer (some ⟨p.oo, 0, none⟩)

structure NodeAt (W : World) (d : Nod) (p : Pl) : Prop where
  nd : Blk W p.n 34 [p.vh, oVal d p, .bool d.rs, .int .i64 d.x, cVal d p]
  con : ∀ ck ik k, d.ctx = some (ck, ik, k) → Blk W p.co 35 (bc ck ++ (bc ik ++ [.int .i64 k])) ∧ ck.length = 16 ∧ ik.length = 16 ∧ (Lit.int .i64 k).wf = true
  out : ∀ q k, d.out = some (q, k) → Blk W p.oo 39 (q.chal k) ∧ q.Ok ∧ Xs W q.pa q.t q.pc ∧ (∀ x, q.pa = some x → x.block < W.heap.size) ∧ (Lit.int .i64 k).wf = true
  vs : p.vh = .slice none 0 0 ∧ d.m = 0 ∨ ∃ cap, p.vh = .slice (some ⟨p.vb, 0, none⟩) d.m cap
  vec : ∀ j, j < d.m → W.rangeAt p.vb (j * 65) (d.qs j).cells ∧ (d.qs j).Ok ∧ Xs W (d.qs j).pa (d.qs j).t (d.qs j).pc ∧ ∀ x, (d.qs j).pa = some x → x.block < W.heap.size
  few : d.m ≤ 1048576

theorem Xs.below {W W' : World} {pa : Option Addr} {t : List UInt8} {pc : Nat} (h : Xs W pa t pc) (hb : Below W.heap.size W W') : Xs W' pa t pc := h.grown (below_size hb)
theorem range_below {W W' : World} {b o : Nat} {l : List Value} (h : W.rangeAt b o l) (hb : Below W.heap.size W W') : W'.rangeAt b o l := fun j v hv => (below_size hb).cell (h j v hv) (by simp)
theorem NodeAt.below {W W' : World} {d : Nod} {p : Pl} (h : NodeAt W d p) (hb : Below W.heap.size W W') : NodeAt W' d p := by
  refine ⟨h.nd.below hb h.nd.lt, fun ck ik k e => ?_, fun q k e => ?_, h.vs, fun j hj => ?_, h.few⟩
  · obtain ⟨a, b⟩ := h.con ck ik k e
    exact ⟨a.below hb a.lt, b⟩
  · obtain ⟨a, b, c, f, g⟩ := h.out q k e
    exact ⟨a.below hb a.lt, b, c.below hb, fun x ex => Nat.lt_of_lt_of_le (f x ex) hb.size, g⟩
  · obtain ⟨a, b, c, f⟩ := h.vec j hj
    exact ⟨range_below a hb, b, c.below hb, fun x ex => Nat.lt_of_lt_of_le (f x ex) hb.size⟩

theorem ctx_S {w : World} {g ty : Nat} {ck ik : List UInt8} {k : Int} (h : Blk w g ty (bc ck ++ (bc ik ++ [.int .i64 k]))) (l1 : ck.length = 16) (l2 : ik.length = 16) : w.rangeAt g 0 (bc ck) ∧ w.rangeAt g 16 (bc ik) ∧ w.cell? ⟨g, 32, none⟩ = some (.int .i64 k) := by
  refine ⟨h.range 0 (by simp), h.range 16 ?_, h.cell ?_⟩
  · rw [List.drop_left' (by rw [bc_length, l1])]; simp
  · rw [List.getElem?_append_right (by rw [bc_length, l1]; omega), List.getElem?_append_right (by rw [bc_length, bc_length, l1, l2]; omega)]
    simp [bc_length, l1, l2]
theorem info39 : (Ybaf.prog.info? 39).map (·.size) = some 66 := by kernel_rfl
theorem chal_size {q : Qn} (hq : q.Ok) {k : Int} : (q.chal k).length = 66 := by simp [Qn.chal, hq.size]
theorem tVecs_len {W : World} {d : Nod} {p : Pl} (h : NodeAt W d p) : ∀ j, j ≤ d.m → (tVecs d.qs j).length ≤ j * 3000010
  | 0, _ => by simp [tVecs]
  | j + 1, hj => by
    have ih := tVecs_len h j (by omega)
    have := (h.vec j (by omega)).2.1.tlen
    have e : sVec.length = 7 := rfl
    simp only [tVecs, tVec, List.length_append, List.length_cons, List.length_nil]
    omega
theorem row_mono {w : World} {B B' : Nat} {v : Value} {l : List UInt8} (h : Row w B v l) (hb : B' ≤ B) : Row w B' v l := by
  refine ⟨h.1, ?_⟩
  rcases h.2 with hn | ⟨g, cap, cur, rfl, hg, rest⟩
  · exact .inl hn
  · exact .inr ⟨g, cap, cur, rfl, by omega, rest⟩
theorem ne32 (d : Nod) (p : Pl) (w : World) : (binOp .neq 32 (cVal d p) (.pointer none)).run Ybaf.prog w = .ok (.bool d.ctx.isSome) w := by
  unfold cVal
  cases d.ctx <;> kernel_rfl
theorem eg32 (d : Nod) (p : Pl) (a b : Operand) (w : World) : (eqGuard .neq 32 a b (cVal d p) (.pointer none)).run Ybaf.prog w = .ok () w := by
  unfold cVal
  cases d.ctx <;> kernel_rfl
theorem ne31 (d : Nod) (p : Pl) (w : World) : (binOp .neq 31 (oVal d p) (.pointer none)).run Ybaf.prog w = .ok (.bool d.out.isSome) w := by
  unfold oVal
  cases d.out <;> kernel_rfl
theorem eg31 (d : Nod) (p : Pl) (a b : Operand) (w : World) : (eqGuard .neq 31 a b (oVal d p) (.pointer none)).run Ybaf.prog w = .ok () w := by
  unfold oVal
  cases d.out <;> kernel_rfl

set_option maxRecDepth 100000 in
set_option maxHeartbeats 16000000 in
theorem marshal_any {W : World} {d : Nod} {p : Pl} (F : Interp) (hF : F.told.answers W.tape) (h : NodeAt W d p) :
    Calls Ybaf.prog 5 #[.pointer (some ⟨p.n, 0, none⟩)] W fun e w' => ∃ v, e = .returned v ∧ Row w' W.heap.size v (tNode d) ∧ Below W.heap.size W w' := by
  go_enter Ybaf.func5, Ybaf.ntmps5
  go_wp2_with fail
  refine nf_any.mono ?_
  rintro e w1 ⟨⟨dd, pp, kk, rfl, h1, h2, h3⟩, hb1⟩
  have hn1 := h.below hb1
  have HA := hide (ad_any (B := w1.heap.size) (v := .slice none 0 0) (l := []) F (by rw [hb1.tape]; exact hF) (Row.nil _ _) (Nat.le_refl _) (by simp) h1 h2 h3 (hn1.nd.cell (i := 3) rfl) (hn1.nd.cell (i := 2) rfl) h1.lt h2.lt h3.lt hn1.nd.lt)
  clear h1 h2 h3
  go_wp2_with fail
  refine HA.out.mono ?_
  rintro e w2 ⟨v2, rfl, hr2, hb2⟩
  rw [List.nil_append] at hr2
  obtain ⟨B, eB⟩ : ∃ B, B = w1.heap.size := ⟨_, rfl⟩
  rw [← eB] at hr2 hb2
  have EB := hide eB
  have KN : ∀ w', Below B w1 w' → NodeAt w' d p ∧ F.told.answers w'.tape ∧ B ≤ w'.heap.size := fun w' hb => ⟨hn1.below (by rw [← eB]; exact hb), by rw [hb.tape, hb1.tape]; exact hF, by rw [eB]; exact hb.size⟩
  have HK := hide KN
  have HN1 := hide hn1
  clear KN HA hn1 eB h
  have cc := (HK.out _ hb2).1.nd.cell (i := 4) rfl
  have q1 := ne32 d p
  have q2 := eg32 d p
  go_upto_if 16 with (fail)
  clear q1 q2
  go_cut [3, 4] from 14 to 34 (fun v' _ w' => Row w' B v' (tFields d.x d.rs ++ tCon d.ctx) ∧ Below B w1 w')
  case first =>
    cases ec : d.ctx with
    | none =>
      have ec' : d.ctx.isSome = false := by rw [ec]; rfl
      simp only [ec] at *
      go_wp2
      go_meet
      case rel => exact ⟨by simpa [tCon] using hr2, hb2⟩
    | some t =>
      obtain ⟨ck, ik, k⟩ := t
      have ev : cVal d p = .pointer (some ⟨p.co, 0, none⟩) := by unfold cVal; rw [ec]
      simp only [ev]
      go_upto_region 4 with (fail)
      obtain ⟨hc, l1, l2, wk⟩ := (HK.out _ hb2).1.con ck ik k ec
      have hft : (tFields d.x d.rs).length ≤ 70368744177664 := by
        have h1 := FmtText.itoa_length_le (wrap_wf d.x)
        have h2 := FmtText.itoa_length_le (bit_wf d.rs)
        have h3 : sKsi.data.toList.length = 8 := rfl
        have h4 : sRes.data.toList.length = 15 := rfl
        simp only [tFields, tField, List.length_append, List.length_cons, List.length_nil]
        omega
      refine wp_region_noPanic ?_
      refine wp_region_held_drew (S := fun w' => w'.rangeAt p.co 0 (bc ck) ∧ w'.rangeAt p.co 16 (bc ik) ∧ w'.cell? ⟨p.co, 32, none⟩ = some (.int .i64 k)) (by kernel_rfl) (ctx_S hc.drew l1 l2) (fun hS0 => ?_)
      refine wpAnyH_take (i := 0) (oi := { dst := some 17, op := Op.move (Operand.tmp 3), type := 25, pos := "node.go:195", after := #[], guard := none }) (v := v2) rfl (by kernel_rfl) (by kernel_rfl) (by kernel_rfl) (fun _ _ _ h => h) (Or.inl ⟨by rfl, ?_⟩) hS0 ?_
      · intro w hSw; go_simp
      simp only [Act.put, List.setIfInBounds_toArray, List.set_cons_zero, List.set_cons_succ]
      refine wpAnyH_take (i := 1) (oi := { dst := some 18, op := Op.move (Operand.tmp 4), type := 32, pos := "node.go:195", after := #[], guard := none }) (v := .pointer (some ⟨p.co, 0, none⟩)) rfl (by kernel_rfl) (by kernel_rfl) (by kernel_rfl) (fun _ _ _ h => h) (Or.inl ⟨by rfl, ?_⟩) hS0 ?_
      · intro w hSw; go_simp
      simp only [Act.put, List.setIfInBounds_toArray, List.set_cons_zero, List.set_cons_succ]
      refine wpAnyH_take (i := 2) (oi := { dst := some 19, op := Op.nilCheck (Operand.tmp 18), type := 0, pos := "node.go:195", after := #[{ on := 1, ground := Ground.data }], guard := none }) (v := .pointer (some ⟨p.co, 0, none⟩)) rfl (by kernel_rfl) (by kernel_rfl) (by kernel_rfl) (fun _ _ _ h => h) (Or.inl ⟨by rfl, ?_⟩) hS0 ?_
      · intro w hSw; go_simp
      simp only [Act.put, List.setIfInBounds_toArray, List.set_cons_zero, List.set_cons_succ]
      refine wpAnyH_take (i := 3) (oi := { dst := some 20, op := Op.fieldAddr 35 (Operand.tmp 19) 0, type := 0, pos := "node.go:195", after := #[{ on := 2, ground := Ground.data }], guard := none }) (v := .pointer (some ⟨p.co, 0, none⟩)) rfl (by kernel_rfl) (by kernel_rfl) (by kernel_rfl) (fun _ _ _ h => h) (Or.inl ⟨by rfl, ?_⟩) hS0 ?_
      · intro w hSw; go_simp
      simp only [Act.put, List.setIfInBounds_toArray, List.set_cons_zero, List.set_cons_succ]
      refine wpAnyH_take (i := 4) (oi := { dst := some 21, op := Op.load 22 (Operand.tmp 20), type := 22, pos := "node.go:195", after := #[{ on := 3, ground := Ground.data }], guard := none }) (v := .agg (bc ck).toArray) rfl (by kernel_rfl) (by kernel_rfl) (by kernel_rfl) (fun _ _ _ h => h) (yieldsIf_load_mid (by rfl) _ _ rfl p.co 0 rfl (bc ck) _ (fun w h => h.1) Ybaf.underlying22 rfl (by rw [bc_length, l1]; exact info22)) hS0 ?_
      simp only [Act.put, List.setIfInBounds_toArray, List.set_cons_zero, List.set_cons_succ]
      refine wpAnyH_take (i := 5) (oi := { dst := some 22, op := Op.makeInterface 22 (Operand.tmp 21), type := 20, pos := "node.go:195", after := #[{ on := 4, ground := Ground.data }], guard := none }) (v := .iface 22 (.agg (bc ck).toArray)) rfl (by kernel_rfl) (by kernel_rfl) (by kernel_rfl) (fun _ _ _ h => h) (Or.inl ⟨by rfl, ?_⟩) hS0 ?_
      · intro w hSw; go_simp
      simp only [Act.put, List.setIfInBounds_toArray, List.set_cons_zero, List.set_cons_succ]
      refine wpAnyH_take (i := 6) (oi := { dst := some 23, op := Op.move (Operand.tmp 4), type := 32, pos := "node.go:195", after := #[], guard := none }) (v := .pointer (some ⟨p.co, 0, none⟩)) rfl (by kernel_rfl) (by kernel_rfl) (by kernel_rfl) (fun _ _ _ h => h) (Or.inl ⟨by rfl, ?_⟩) hS0 ?_
      · intro w hSw; go_simp
      simp only [Act.put, List.setIfInBounds_toArray, List.set_cons_zero, List.set_cons_succ]
      refine wpAnyH_take (i := 7) (oi := { dst := some 24, op := Op.nilCheck (Operand.tmp 23), type := 0, pos := "node.go:195", after := #[{ on := 6, ground := Ground.data }], guard := none }) (v := .pointer (some ⟨p.co, 0, none⟩)) rfl (by kernel_rfl) (by kernel_rfl) (by kernel_rfl) (fun _ _ _ h => h) (Or.inl ⟨by rfl, ?_⟩) hS0 ?_
      · intro w hSw; go_simp
      simp only [Act.put, List.setIfInBounds_toArray, List.set_cons_zero, List.set_cons_succ]
      refine wpAnyH_take (i := 8) (oi := { dst := some 25, op := Op.fieldAddr 35 (Operand.tmp 24) 1, type := 0, pos := "node.go:195", after := #[{ on := 7, ground := Ground.data }], guard := none }) (v := .pointer (some ⟨p.co, 16, none⟩)) rfl (by kernel_rfl) (by kernel_rfl) (by kernel_rfl) (fun _ _ _ h => h) (Or.inl ⟨by rfl, ?_⟩) hS0 ?_
      · intro w hSw; go_simp
      simp only [Act.put, List.setIfInBounds_toArray, List.set_cons_zero, List.set_cons_succ]
      refine wpAnyH_take (i := 9) (oi := { dst := some 26, op := Op.load 22 (Operand.tmp 25), type := 22, pos := "node.go:195", after := #[{ on := 8, ground := Ground.data }], guard := none }) (v := .agg (bc ik).toArray) rfl (by kernel_rfl) (by kernel_rfl) (by kernel_rfl) (fun _ _ _ h => h) (yieldsIf_load_mid (by rfl) _ _ rfl p.co 16 rfl (bc ik) _ (fun w h => h.2.1) Ybaf.underlying22 rfl (by rw [bc_length, l2]; exact info22)) hS0 ?_
      simp only [Act.put, List.setIfInBounds_toArray, List.set_cons_zero, List.set_cons_succ]
      refine wpAnyH_take (i := 10) (oi := { dst := some 27, op := Op.makeInterface 22 (Operand.tmp 26), type := 20, pos := "node.go:195", after := #[{ on := 9, ground := Ground.data }], guard := none }) (v := .iface 22 (.agg (bc ik).toArray)) rfl (by kernel_rfl) (by kernel_rfl) (by kernel_rfl) (fun _ _ _ h => h) (Or.inl ⟨by rfl, ?_⟩) hS0 ?_
      · intro w hSw; go_simp
      simp only [Act.put, List.setIfInBounds_toArray, List.set_cons_zero, List.set_cons_succ]
      refine wpAnyH_take (i := 11) (oi := { dst := some 28, op := Op.move (Operand.tmp 4), type := 32, pos := "node.go:195", after := #[], guard := none }) (v := .pointer (some ⟨p.co, 0, none⟩)) rfl (by kernel_rfl) (by kernel_rfl) (by kernel_rfl) (fun _ _ _ h => h) (Or.inl ⟨by rfl, ?_⟩) hS0 ?_
      · intro w hSw; go_simp
      simp only [Act.put, List.setIfInBounds_toArray, List.set_cons_zero, List.set_cons_succ]
      refine wpAnyH_take (i := 12) (oi := { dst := some 29, op := Op.nilCheck (Operand.tmp 28), type := 0, pos := "node.go:195", after := #[{ on := 11, ground := Ground.data }], guard := none }) (v := .pointer (some ⟨p.co, 0, none⟩)) rfl (by kernel_rfl) (by kernel_rfl) (by kernel_rfl) (fun _ _ _ h => h) (Or.inl ⟨by rfl, ?_⟩) hS0 ?_
      · intro w hSw; go_simp
      simp only [Act.put, List.setIfInBounds_toArray, List.set_cons_zero, List.set_cons_succ]
      refine wpAnyH_take (i := 13) (oi := { dst := some 30, op := Op.fieldAddr 35 (Operand.tmp 29) 2, type := 0, pos := "node.go:195", after := #[{ on := 12, ground := Ground.data }], guard := none }) (v := .pointer (some ⟨p.co, 32, none⟩)) rfl (by kernel_rfl) (by kernel_rfl) (by kernel_rfl) (fun _ _ _ h => h) (Or.inl ⟨by rfl, ?_⟩) hS0 ?_
      · intro w hSw; go_simp
      simp only [Act.put, List.setIfInBounds_toArray, List.set_cons_zero, List.set_cons_succ]
      refine wpAnyH_take (i := 14) (oi := { dst := some 31, op := Op.load 3 (Operand.tmp 30), type := 3, pos := "node.go:195", after := #[{ on := 13, ground := Ground.data }], guard := none }) (v := .int .i64 k) rfl (by kernel_rfl) (by kernel_rfl) (by kernel_rfl) (fun _ _ _ h => h) (Or.inl ⟨by rfl, ?_⟩) hS0 ?_
      · intro w hSw; go_simp
      simp only [Act.put, List.setIfInBounds_toArray, List.set_cons_zero, List.set_cons_succ]
      refine wpAnyH_take (i := 15) (oi := { dst := some 32, op := Op.makeInterface 3 (Operand.tmp 31), type := 20, pos := "node.go:195", after := #[{ on := 14, ground := Ground.data }], guard := none }) (v := .iface 3 (.int .i64 k)) rfl (by kernel_rfl) (by kernel_rfl) (by kernel_rfl) (fun _ _ _ h => h) (Or.inl ⟨by rfl, ?_⟩) hS0 ?_
      · intro w hSw; go_simp
      simp only [Act.put, List.setIfInBounds_toArray, List.set_cons_zero, List.set_cons_succ]
      refine wpAnyH_ready (rs := [16]) (by kernel_rfl) (by simp) ?_
      refine AllReadyH.cons (o := { dst := some 33, op := Op.buildSlice 64 3 #[(0, Operand.tmp 22), (1, Operand.tmp 27), (2, Operand.tmp 32)], type := 64, pos := "node.go:195", after := #[{ on := 5, ground := Ground.data }, { on := 10, ground := Ground.data }, { on := 15, ground := Ground.data }], guard := none }) rfl (fun K hK => ?_) AllReadyH.nil
      go_simp
      refine hK.out _ _ (ctx_S ((hc.drew).alloc _) l1 l2) (fun hS1 => ?_)
      clear hK K
      refine wpAnyH_ready (rs := [17]) (by kernel_rfl) (by simp) ?_
      refine AllReadyH.cons (o := { dst := some 34, op := Op.call { callee := Callee.value (Operand.func 15), args := #[Operand.tmp 17, Operand.const (Value.string { data := #[99, 111, 110, 116, 101, 120, 116, 32, 37, 120, 32, 37, 120, 32, 37, 100, 10] }), Operand.tmp 33], argTypes := #[25, 9, 64] }, type := 25, pos := "node.go:195", after := #[{ on := 0, ground := Ground.data }, { on := 16, ground := Ground.data }], guard := none }) rfl (fun K hK => ?_) AllReadyH.nil
      go_wp2_with fail
      refine (af_ctx F (by show F.told.answers w2.tape; exact (HK.out _ hb2).2.1) (hr2.drew.alloc _) (by have := (HK.out _ hb2).2.2; simp; omega) hft (Blk.new w2.drew 20 [.iface 22 (.agg (bc ck).toArray), .iface 22 (.agg (bc ik).toArray), .iface 3 (.int .i64 k)]) l1 l2 wk).mono ?_
      rintro e w3 ⟨v3, rfl, hr3, hg3, ho3⟩
      have hb3 : Below B w1 w3 := Below.grown ((hb2.drew).alloc (HK.out _ hb2).2.2 _) hg3 (by have := (HK.out _ hb2).2.2; simp; omega) (fun q e => (hr2.lt q e).1)
      refine hK.out _ _ (ctx_S ((HK.out _ hb3).1.con ck ik k ec).1 l1 l2) (fun hS2 => ?_)
      clear hK K
      refine wpAnyH_take (i := 18) (oi := { dst := some 3, op := Op.assign (Operand.tmp 34), type := 25, pos := "node.go:195", after := #[{ on := 17, ground := Ground.data }, { on := 17, ground := Ground.chain }, { on := 0, ground := Ground.phase }, { on := 1, ground := Ground.phase }, { on := 2, ground := Ground.phase }, { on := 3, ground := Ground.phase }, { on := 4, ground := Ground.phase }, { on := 5, ground := Ground.phase }, { on := 6, ground := Ground.phase }, { on := 7, ground := Ground.phase }, { on := 8, ground := Ground.phase }, { on := 9, ground := Ground.phase }, { on := 10, ground := Ground.phase }, { on := 11, ground := Ground.phase }, { on := 12, ground := Ground.phase }, { on := 13, ground := Ground.phase }, { on := 14, ground := Ground.phase }, { on := 15, ground := Ground.phase }, { on := 16, ground := Ground.phase }, { on := 17, ground := Ground.phase }], guard := none }) (v := v3) rfl (by kernel_rfl) (by kernel_rfl) (by kernel_rfl) (fun _ _ _ h => h) (Or.inl ⟨by rfl, ?_⟩) hS2 ?_
      · intro w hSw; go_simp
      simp only [Act.put, List.setIfInBounds_toArray, List.set_cons_zero, List.set_cons_succ]
      refine wpAnyH_done (by kernel_rfl) ?_ _
      refine NoPanic.normal ?_
      go_wp2
      go_meet
      case rel => exact ⟨by rw [ec]; exact hr3, hb3⟩
  case rest =>
  clear cc hr2 hb2
  obtain ⟨hr3, hb3⟩ := hcut
  have cc := (HK.out _ hb3).1.nd.cell (i := 1) rfl
  have q1 := ne31 d p
  have q2 := eg31 d p
  rename World => w3
  go_upto_if 40 with (fail)
  clear q1 q2
  have hlc : (tFields d.x d.rs ++ tCon d.ctx).length ≤ 2000 := by
    rw [List.length_append]
    have h1 := FmtText.itoa_length_le (wrap_wf d.x)
    have h2 := FmtText.itoa_length_le (bit_wf d.rs)
    have h3 : sKsi.data.toList.length = 8 := rfl
    have h4 : sRes.data.toList.length = 15 := rfl
    have h5 : (tCon d.ctx).length ≤ 1000 := by
      cases ec : d.ctx with
      | none => simp [tCon]
      | some t =>
        obtain ⟨ck, ik, k⟩ := t
        obtain ⟨_, l1, l2, wk⟩ := (HK.out _ hb3).1.con ck ik k ec
        have := FmtText.itoa_length_le wk
        simp only [tCon, tCtx, List.length_append, List.length_cons, List.length_nil, FmtText.hexOf_length]
        omega
    simp only [tFields, tField, List.length_append, List.length_cons, List.length_nil]
    omega
  go_cut [3, 5] from 38 to 45 (fun v' _ w' => Row w' B v' (tFields d.x d.rs ++ tCon d.ctx ++ tOut d.out) ∧ Below B w1 w')
  case first =>
    cases ec : d.out with
    | none =>
      have ec' : d.out.isSome = false := by rw [ec]; rfl
      simp only [ec] at *
      go_wp2
      go_meet
      case rel => exact ⟨by simpa [tOut] using hr3, hb3⟩
    | some t =>
      obtain ⟨q, k⟩ := t
      have ev : oVal d p = .pointer (some ⟨p.oo, 0, none⟩) := by unfold oVal; rw [ec]
      simp only [ev]
      obtain ⟨ho, hq, hx, hlt, wk⟩ := (HK.out _ hb3).1.out q k ec
      obtain ⟨_, _, _, hlt1, _⟩ := HN1.out.out q k ec
      have HC := hide (cline_any F (HK.out _ hb3).2.1 hr3 (HK.out _ hb3).2.2 (by omega) hq hx (fun x e => by rw [EB.out]; exact hlt1 x e) wk)
      go_wp2_with (refine wpList_load_mid (by rfl) 39 _ (by rfl) p.oo 0 (by rfl) (q.chal k) _ ho.all Ybaf.underlying39 rfl (by rw [chal_size hq]; exact info39) ?_)
      refine HC.out.mono ?_
      rintro e w4 ⟨v4, rfl, hr4, hg4, ho4⟩
      have hb4 : Below B w1 w4 := Below.grown hb3 hg4 (HK.out _ hb3).2.2 (fun q e => (hr3.lt q e).1)
      go_wp2
      go_meet
      case rel => exact ⟨by rw [ec]; exact hr4, hb4⟩
  case rest =>
  clear cc hr3 hb3
  obtain ⟨hr4, hb4⟩ := hcut
  rename World => w4
  obtain ⟨va, cap, evh, hva⟩ : ∃ va cap, p.vh = .slice va d.m cap ∧ (0 < d.m → va = some ⟨p.vb, 0, none⟩) := by
    rcases HN1.out.vs with ⟨e, e0⟩ | ⟨cap, e⟩
    · exact ⟨none, 0, by rw [e, e0], fun h => by omega⟩
    · exact ⟨_, cap, e, fun _ => rfl⟩
  have cc := (HK.out _ hb4).1.nd.cell (i := 0) rfl
  rw [evh] at cc
  have m0 : (0 : Int) ≤ (d.m : Int) := by omega
  have hfew := HN1.out.few
  have m1 : (d.m : Int) ≤ 1048576 := by omega
  obtain ⟨L, eL⟩ : ∃ L, L = tFields d.x d.rs ++ tCon d.ctx ++ tOut d.out := ⟨_, rfl⟩
  rw [← eL] at hr4
  have hL : L.length ≤ 4000000 := by
    rw [eL, List.length_append]
    have : (tOut d.out).length ≤ 3500000 := by
      cases ec : d.out with
      | none => simp [tOut]
      | some t =>
        obtain ⟨q, k⟩ := t
        obtain ⟨_, hq, _, _, wk⟩ := HN1.out.out q k ec
        have := FmtText.itoa_length_le wk
        have := hq.tlen
        simp only [tOut, tKsi, sChal, List.length_append, List.length_cons, List.length_nil]
        omega
    omega
  have EL := hide eL
  clear eL hlc
  go_wp2_with fail
  go_loopw [3, 7, 51] (fun s _ y w' => ∃ j : Nat, y = .int .i64 (j : Int) ∧ j ≤ d.m ∧ Row w' B s (L ++ tVecs d.qs j) ∧ Below B w1 w') (fun _ _ y _ => d.m - (intOf y).toNat)
  case atStart => exact ⟨0, rfl, by omega, by simpa [tVecs] using hr4, hb4⟩
  case round =>
    clear hr4 hb4 cc
    obtain ⟨j, rfl, hj, hrow, hbel⟩ := hrel
    have j0 : (0 : Int) ≤ (j : Int) := by omega
    by_cases hlt : j < d.m
    · have j1 : (j : Int) < (d.m : Int) := by omega
      obtain rfl := hva (by omega)
      obtain ⟨hrg, hq, hx, _⟩ := (HK.out _ hbel).1.vec j hlt
      obtain ⟨_, _, _, hlt1⟩ := HN1.out.vec j hlt
      have z36 := zero36
      have hbz := Blk.new wr 36 Qn.zero.cells
      have e65 : (d.qs j).cells.toArray.size = 65 := hq.size
      have hT : (wr.alloc (.cells Qn.zero.cells.toArray 36)).there wr.heap.size 0 (d.qs j).cells.toArray.size := by rw [e65]; exact hbz.there zero_ok.size
      have hI : (Ybaf.prog.info? 36).map (·.size) = some (d.qs j).cells.toArray.size := by rw [e65]; exact info36
      have hO := all_oneCell_toArray (cells_one (d.qs j))
      have E65 := hide e65
      clear e65
      go_upto_region 11 with (first | (refine wpList_load_mid (by rfl) 36 _ (by rfl) p.vb (j * 65) (by rfl) (d.qs j).cells _ hrg Ybaf.underlying36 rfl (by rw [hq.size]; exact info36) ?_) | (refine wpList_store_mid (by rfl) 36 _ _ (by rfl) wr.heap.size 0 (d.qs j).cells.toArray (by rfl) (by rfl) hT hI hO ?_))
      have hb5 := hbz.whole (l' := (d.qs j).cells) (by rw [zero_ok.size, hq.size])
      have hBw := (HK.out _ hbel).2.2
      have bel5 : Below B w1 ((wr.alloc (.cells Qn.zero.cells.toArray 36)).setCells wr.heap.size 0 (d.qs j).cells) := below_sets hBw _ _ (hbel.alloc hBw _)
      have gr5 : wr.grownBy ((wr.alloc (.cells Qn.zero.cells.toArray 36)).setCells wr.heap.size 0 (d.qs j).cells) none := grown_made2 (grown_sets _ _ _ _)
      generalize ((wr.alloc (.cells Qn.zero.cells.toArray 36)).setCells wr.heap.size 0 (d.qs j).cells) = w5 at hb5 bel5 gr5 ⊢
      have hrow5 := hrow.grown gr5
      have HV := hide (vline_any F (HK.out _ bel5).2.1 hrow5 (HK.out _ bel5).2.2 (by have := tVecs_len HN1.out j hj; simp only [List.length_append]; omega) hq (hx.grown gr5) (fun x e => by rw [EB.out]; exact hlt1 x e))
      clear hbz z36 hrow hT hI hO E65
      go_wp2_with (refine wpList_load_mid (by rfl) 36 _ (by rfl) wr.heap.size 0 (by rfl) (d.qs j).cells _ hb5.all Ybaf.underlying36 rfl (by rw [hq.size]; exact info36) ?_)
      refine HV.out.mono ?_
      rintro e w6 ⟨v6, rfl, hr6, hg6, ho6⟩
      have bel6 : Below B w1 w6 := Below.grown bel5 hg6 (HK.out _ bel5).2.2 (fun q e => (hrow5.lt q e).1)
      rw [List.append_assoc] at hr6
      go_wp2
      exact ⟨⟨j + 1, by go_num, by omega, hr6, bel6⟩, by simp [intOf]; omega⟩
    · have j1 : ¬ (j : Int) < (d.m : Int) := by omega
      obtain rfl : j = d.m := by omega
      go_wp2
      go_ret
      refine ⟨_, rfl, ?_, ?_⟩
      · have e : tNode d = L ++ tVecs d.qs d.m := by rw [EL.out]; rfl
        rw [e]
        exact row_mono hrow (by rw [EB.out]; exact hb1.size)
      · exact hb1.trans (hbel.mono (by rw [EB.out]; exact hb1.size))
end Go.Proofs.YbulkfhtoFmt.A
