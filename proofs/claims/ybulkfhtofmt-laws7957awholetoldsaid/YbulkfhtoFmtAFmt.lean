/-
  fmt's texts on this road: what Sprintf is asked, and what it says (told).
-/
import Derived.Test.YbulkfhtoFmtAKit
import Derived.Stop.CallBack
import Derived.Stop.IfaceNil
import Derived.Stop.FmtTextSlices
import Derived.Stop.FmtTextWhole
import Derived.Stop.FmtTextKit
import Derived.Stop.Texts
import Derived.Stop.Told
import GoSem.ClaimData
namespace Go.Proofs.YbulkfhtoFmt.A
open Go.RowKit Go.Extern.Stop Go.Stop Go.Extern Go.Kit
attribute [local go_sem ↓] Go.wp_at_zero Go.wp_at_succ

/-! ### the closed facts of this program -/
theorem call21 (args : Array Value) (w : World) : (callFunc 21 args).run Ybaf.prog w = ((FmtStop.sprintf #[9, 64] #[9] args).run Ybaf.prog w).andThen fun v w' => .ok (.value v) w' :=
  run_callFunc_extern Ybaf.func21 (by kernel_rfl) (by kernel_rfl) (by kernel_rfl) (by kernel_rfl) args w
theorem fguard (name : String) (w : World) : (FmtStop.guard name).run Ybaf.prog w = .ok () w := by kernel_rfl

/-- "%s %d\n" -/
def fField : List UInt8 := [37, 115, 32, 37, 100, 10]
/-- "context %x %x %d\n" -/
def fCtx : List UInt8 := [99, 111, 110, 116, 101, 120, 116, 32, 37, 120, 32, 37, 120, 32, 37, 100, 10]
/-- "%x %x %x %x %x" -/
def fQuin : List UInt8 := [37, 120, 32, 37, 120, 32, 37, 120, 32, 37, 120, 32, 37, 120]
/-- " %d\n" -/
def fKsi : List UInt8 := [32, 37, 100, 10]
theorem p_field : FmtStop.printed? ⟨#[37, 115, 32, 37, 100, 10]⟩ 2 = some [(0, 115, false), (1, 100, false)] := by kernel_rfl
theorem p_ctx : FmtStop.printed? ⟨#[99, 111, 110, 116, 101, 120, 116, 32, 37, 120, 32, 37, 120, 32, 37, 100, 10]⟩ 3 = some [(0, 120, false), (1, 120, false), (2, 100, false)] := by kernel_rfl
theorem p_quin : FmtStop.printed? ⟨#[37, 120, 32, 37, 120, 32, 37, 120, 32, 37, 120, 32, 37, 120]⟩ 5 = some [(0, 120, false), (1, 120, false), (2, 120, false), (3, 120, false), (4, 120, false)] := by kernel_rfl
theorem p_ksi : FmtStop.printed? ⟨#[32, 37, 100, 10]⟩ 1 = some [(0, 100, false)] := by kernel_rfl
theorem t_field : (FmtText.parse fField).map FmtText.glue = some [.verb {} 115, .lit [32], .verb {} 100, .lit [10]] := by rfl
theorem t_ctx : (FmtText.parse fCtx).map FmtText.glue = some [.lit [99, 111, 110, 116, 101, 120, 116, 32], .verb {} 120, .lit [32], .verb {} 120, .lit [32], .verb {} 100, .lit [10]] := by rfl
theorem t_quin : (FmtText.parse fQuin).map FmtText.glue = some [.verb {} 120, .lit [32], .verb {} 120, .lit [32], .verb {} 120, .lit [32], .verb {} 120, .lit [32], .verb {} 120] := by rfl
theorem t_ksi : (FmtText.parse fKsi).map FmtText.glue = some [.lit [32], .verb {} 100, .lit [10]] := by rfl

def shape3 : List UInt8 := [5, 3, 0, 0, 0, 0, 0, 0, 0, 105, 110, 116]
def shape9 : List UInt8 := [12, 6, 0, 0, 0, 0, 0, 0, 0, 115, 116, 114, 105, 110, 103]
def shape42 : List UInt8 := 9 :: FmtStop.pack "uint64".toUTF8.data.toList
def shape22 : List UInt8 := 17 :: (FmtStop.pack "[16]uint8".toUTF8.data.toList ++ (digits 8 16 ++ (6 :: (FmtStop.pack "uint8".toUTF8.data.toList ++ []))))
def shape25 : List UInt8 := 13 :: (FmtStop.pack "[]uint8".toUTF8.data.toList ++ 6 :: FmtStop.pack "uint8".toUTF8.data.toList)
theorem op3 (name : String) (x : Int) (w : World) : (FmtStop.operand name false 100 false (.iface 3 (.int .i64 x))).run Ybaf.prog w = .ok (shape3, digits 8 (x % 2 ^ 64).toNat) w := by kernel_rfl
theorem op42 (name : String) (x : Int) (w : World) : (FmtStop.operand name false 100 false (.iface 42 (.int .u64 x))).run Ybaf.prog w = .ok (shape42, digits 8 (x % 2 ^ 64).toNat) w := by kernel_rfl
theorem op9 (name : String) (x : ByteArray) (w : World) : (FmtStop.operand name false 115 false (.iface 9 (.string x))).run Ybaf.prog w = .ok (shape9, FmtStop.pack x.data.toList) w := by kernel_rfl
theorem op25n (name : String) (w : World) : (FmtStop.operand name false 120 false (.iface 25 (.slice none 0 0))).run Ybaf.prog w = .ok (shape25, [0]) w := by kernel_rfl

/-- Bytes as numbers. -/
def nums (l : List UInt8) : List Int := l.map fun b => (b.toNat : Int)
theorem nums_length (l : List UInt8) : (nums l).length = l.length := by simp [nums]
theorem nums_wf (l : List UInt8) : ∀ x ∈ nums l, (Lit.int .u8 x).wf = true := by
  intro x hx
  obtain ⟨b, _, rfl⟩ := List.mem_map.1 hx
  have := b.toNat_lt
  simp [Lit.wf, IntKind.min, IntKind.max, IntKind.signed, IntKind.bits]
  omega
theorem nums_bytes (l : List UInt8) : FmtText.bytesOf (nums l) = l := by
  simp only [FmtText.bytesOf, nums, List.map_map]
  conv => rhs; rw [← List.map_id l]
  refine List.map_congr_left fun b _ => ?_
  have := b.toNat_lt
  simp only [Function.comp, id]
  rw [show ((b.toNat : Int) % 18446744073709551616).toNat = b.toNat by omega]
  simp

theorem list16 {α : Type} (l : List α) (h : l.length = 16) : ∃ a0 a1 a2 a3 a4 a5 a6 a7 a8 a9 a10 a11 a12 a13 a14 a15, l = [a0, a1, a2, a3, a4, a5, a6, a7, a8, a9, a10, a11, a12, a13, a14, a15] := by
  match l, h with
  | [a0, a1, a2, a3, a4, a5, a6, a7, a8, a9, a10, a11, a12, a13, a14, a15], _ => exact ⟨a0, a1, a2, a3, a4, a5, a6, a7, a8, a9, a10, a11, a12, a13, a14, a15, rfl⟩

theorem op22 (name : String) (r : List UInt8) (h : r.length = 16) (w : World) : (FmtStop.operand name false 120 false (.iface 22 (.agg (bc r).toArray))).run Ybaf.prog w = .ok (shape22, FmtText.intValues (nums r)) w := by
  obtain ⟨a0, a1, a2, a3, a4, a5, a6, a7, a8, a9, a10, a11, a12, a13, a14, a15, rfl⟩ := list16 r h
  kernel_rfl

theorem value5 (name : String) (x : Int) (w : World) : (FmtStop.value name FmtStop.depth 5 [.int .u8 x]).run Ybaf.prog w = .ok (digits 8 (x % 2 ^ 64).toNat) w := by kernel_rfl
theorem values5 (name : String) (w : World) : ∀ xs : List Int, (List.mapM ((fun c => FmtStop.value name FmtStop.depth 5 [c]) ∘ Value.int IntKind.u8) xs).run Ybaf.prog w = .ok (xs.map fun x => digits 8 (x % 18446744073709551616).toNat) w
  | [] => by simp [List.mapM_nil]
  | x :: xs => by
    have ih := values5 name w xs
    have h := value5 name x w
    simp [List.mapM_cons, h, ih, Result.andThen]

theorem op25 (name : String) (a : Addr) (cap : Nat) (xs : List Int) (w : World) (hc : ∀ j v, (xs.map (Value.int .u8))[j]? = some v → w.cell? (a.add j) = some v) :
    (FmtStop.operand name false 120 false (.iface 25 (.slice (some a) xs.length cap))).run Ybaf.prog w = .ok (shape25, 1 :: (digits 8 xs.length ++ FmtText.intValues xs)) w := by
  have h1 : (typeStr 25).run Ybaf.prog w = .ok "[]uint8" w := by kernel_rfl
  have d2 : Ybaf.t25.desc = .slice 5 := rfl
  have hb : (FmtStop.bare (FmtStop.asked false 120 false) 25).run Ybaf.prog w = .ok true w := by kernel_rfl
  have hs : (FmtStop.scalar 5).run Ybaf.prog w = .ok true w := by kernel_rfl
  have hy : (Extern.Stop.isByte 5).run Ybaf.prog w = .ok true w := by kernel_rfl
  have hw : Ybaf.prog.funcs.any (·.name == FmtStop.writeWord) = true := by kernel_rfl
  have hsh : (FmtStop.shape name (FmtStop.asked false 120 false) FmtStop.depth 5).run Ybaf.prog w = .ok (6 :: FmtStop.pack "uint8".toUTF8.data.toList) w := by kernel_rfl
  have hl := run_loadCells_list (P := Ybaf.prog) w a (xs.map (Value.int .u8)) hc
  rw [List.length_map] at hl
  simp [FmtStop.operand, h1, hb, hs, hy, hsh, hl, values5, shape25, FmtText.intValues]
  intro hno
  obtain ⟨i, hi, _, _, he⟩ := Array.any_iff_exists.1 hw
  exact absurd (by simpa using he) (hno i hi)

/-! ### the texts -/
theorem o22 (r : List UInt8) : FmtText.operand shape22 (FmtText.intValues (nums r)) = some (.whole "[16]uint8".toUTF8.data.toList false shape22 (FmtText.intValues (nums r))) :=
  FmtText.operand_whole 17 (Or.inl rfl) _ _ _ (by decide)
theorem w22 (r : List UInt8) (h : r.length = 16) : FmtText.wholeBody {} 120 false shape22 (FmtText.intValues (nums r)) = some (FmtText.hexOf false r) := by
  have hw := FmtText.walk_hash false 120 rfl 8 "[16]uint8".toUTF8.data.toList "uint8".toUTF8.data.toList [] [] (nums r) (by decide) (by decide) (by rw [nums_length, h]; decide) (nums_wf r)
  rw [List.append_nil (FmtText.intValues (nums r)), nums_length, h, nums_bytes] at hw
  rw [FmtText.wholeBody, shape22, hw]
  rfl

/-- What a slice of bytes reads as. -/
def rdX (pa : Option Addr) (t : List UInt8) : List UInt8 := if pa = none then [0] else 1 :: (digits 8 t.length ++ FmtText.intValues (nums t))
theorem o25 (pa : Option Addr) (t : List UInt8) (hn : pa = none → t = []) (hl : t.length < 2 ^ 64) : ∃ nl, FmtText.operand shape25 (rdX pa t) = some (.slice "[]uint8".toUTF8.data.toList "uint8".toUTF8.data.toList true nl (FmtText.intScalars .u8 (nums t))) := by
  unfold rdX
  by_cases e : pa = none
  · rw [if_pos e, hn e]
    exact ⟨true, FmtText.operand_nilSlice (by decide) 6 rfl (by decide)⟩
  · rw [if_neg e]
    have := FmtText.operand_ints (name := "[]uint8".toUTF8.data.toList) (en := FmtStop.pack "uint8".toUTF8.data.toList) (by decide) (FmtText.unpack_pack _ (by decide)) .u8 (nums t) (nums_wf t) (by rw [nums_length]; exact hl)
    rw [nums_length] at this
    exact ⟨false, this⟩
theorem p25 (n e : List UInt8) (nl : Bool) (t : List UInt8) : FmtText.printArg false {} 120 (.slice n e true nl (FmtText.intScalars .u8 (nums t))) = some (FmtText.hexOf false t) := by
  rw [FmtText.printArg_x_bytes, FmtText.fmtSx_plain, nums_bytes]

def tKsi (x : Int) : List UInt8 := [32] ++ Lib.itoa x ++ [10]
def tField (nm : List UInt8) (x : Int) : List UInt8 := nm ++ [32] ++ Lib.itoa x ++ [10]
def tCtx (ck ik : List UInt8) (x : Int) : List UInt8 := [99, 111, 110, 116, 101, 120, 116, 32] ++ FmtText.hexOf false ck ++ [32] ++ FmtText.hexOf false ik ++ [32] ++ Lib.itoa x ++ [10]
def tQuin (r t c i a : List UInt8) : List UInt8 := FmtText.hexOf false r ++ [32] ++ FmtText.hexOf false t ++ [32] ++ FmtText.hexOf false c ++ [32] ++ FmtText.hexOf false i ++ [32] ++ FmtText.hexOf false a

theorem text_ksi (x : Int) (hw : (Lit.int .i64 x).wf = true) : FmtText.text "fmt.Sprintf" [fKsi, shape3, digits 8 (x % 18446744073709551616).toNat] = some (tKsi x) := by
  have hi := FmtText.operand_int_at (sh := shape3) (k := .i64) rfl rfl x hw
  rw [FmtText.text_sprintf_glued t_ksi (FmtText.operands_cons hi FmtText.operands_nil)]
  simp [FmtText.render, FmtText.printArg_d _ _ hw, tKsi]
theorem text_field (nm : List UInt8) (hn : nm.length < 2 ^ 64) (x : Int) (hw : (Lit.int .u64 x).wf = true) : FmtText.text "fmt.Sprintf" [fField, shape9, FmtStop.pack nm, shape42, digits 8 (x % 18446744073709551616).toNat] = some (tField nm x) := by
  have hs := FmtText.operand_str_at (sh := shape9) rfl rfl nm hn
  have hi := FmtText.operand_int_at (sh := shape42) (k := .u64) rfl (FmtText.unpack_pack _ (by decide)) x hw
  rw [FmtText.text_sprintf_glued t_field (FmtText.operands_cons hs (FmtText.operands_cons hi FmtText.operands_nil))]
  simp [FmtText.render, FmtText.printArg_d _ _ hw, FmtText.printArg_s_str, tField]
theorem text_ctx (ck ik : List UInt8) (h1 : ck.length = 16) (h2 : ik.length = 16) (x : Int) (hw : (Lit.int .i64 x).wf = true) : FmtText.text "fmt.Sprintf" [fCtx, shape22, FmtText.intValues (nums ck), shape22, FmtText.intValues (nums ik), shape3, digits 8 (x % 18446744073709551616).toNat] = some (tCtx ck ik x) := by
  have hi := FmtText.operand_int_at (sh := shape3) (k := .i64) rfl rfl x hw
  rw [FmtText.text_sprintf_glued t_ctx (FmtText.operands_cons (o22 ck) (FmtText.operands_cons (o22 ik) (FmtText.operands_cons hi FmtText.operands_nil)))]
  simp [FmtText.render, FmtText.printArg_d _ _ hw, FmtText.printArg_whole, w22 ck h1, w22 ik h2, tCtx]
theorem text_quin (r t c i a : List UInt8) (pa : Option Addr) (h1 : r.length = 16) (h2 : c.length = 16) (h3 : i.length = 16) (h4 : a.length = 16) (hn : pa = none → t = []) (hl : t.length < 2 ^ 64) : FmtText.text "fmt.Sprintf" [fQuin, shape22, FmtText.intValues (nums r), shape25, rdX pa t, shape22, FmtText.intValues (nums c), shape22, FmtText.intValues (nums i), shape22, FmtText.intValues (nums a)] = some (tQuin r t c i a) := by
  obtain ⟨nl, ho⟩ := o25 pa t hn hl
  rw [FmtText.text_sprintf_glued t_quin (FmtText.operands_cons (o22 r) (FmtText.operands_cons ho (FmtText.operands_cons (o22 c) (FmtText.operands_cons (o22 i) (FmtText.operands_cons (o22 a) FmtText.operands_nil)))))]
  simp [FmtText.render, FmtText.printArg_whole, p25, w22 r h1, w22 c h2, w22 i h3, w22 a h4, tQuin]

theorem told_is (F : Interp) {reading : List (List UInt8)} {s : List UInt8} (h : FmtText.text "fmt.Sprintf" reading = some s) (hl : s.length < 2 ^ 63) : (FmtStop.textOf (F.told "fmt.Sprintf" reading 0)).data.toList = s := by
  rw [textOf_list, told_string F h hl]

/-! ### fmt.Appendf -/
/-- What Appendf leaves: the text behind what was there. -/
def Left (W : World) (B : Nat) (v : Value) (l t : List UInt8) (e : Ending) (w' : World) : Prop := ∃ v', e = .returned v' ∧ Row w' B v' (l ++ t) ∧ W.grownBy w' v.ownBlock ∧ Own W v v'

set_option maxRecDepth 100000 in
set_option maxHeartbeats 4000000 in
theorem af_ksi {W : World} {B g : Nat} {v : Value} {l : List UInt8} {x : Int} (F : Interp) (hF : F.told.answers W.tape) (hr : Row W B v l) (hB : B ≤ W.heap.size) (hlen : l.length ≤ 70368744177664) (hb : Blk W g 20 [.iface 3 (.int .i64 x)]) (hw : (Lit.int .i64 x).wf = true) :
    Calls Ybaf.prog 15 #[v, .string ⟨fKsi.toArray⟩, .slice (some ⟨g, 0, none⟩) 1 1] W (Left W B v l (tKsi x)) := by
  have hF' := answers_open hF
  have c0 := hb.cell (i := 0) rfl
  have o1 := op3
  have o4 := p_ksi
  have o2 := call21
  have o3 := fguard
  have HL := hide (show (tKsi x).length ≤ 1000 + 0 by have := FmtText.itoa_length_le hw; simp [tKsi]; omega)
  have ht0 := told_is F (text_ksi x hw) (by have := HL.out; omega)
  unfold fKsi at ht0 ⊢
  have HT := hide ht0
  clear ht0
  go_enter Ybaf.func15, Ybaf.ntmps15
  go_wp2_with (at_builtin; refine app_str rfl _ _ rfl rfl hr.drew _ rfl (by rw [HT.out]; have := HL.out; omega) hB ?_; intro v2 w2 hr2 hg2 ho2)
  go_ret
  refine ⟨_, rfl, ?_, grown_undrew hg2, Own.more ho2 (Nat.le_refl _)⟩
  rw [← HT.out]
  exact hr2

set_option maxRecDepth 100000 in
set_option maxHeartbeats 4000000 in
theorem af_field {W : World} {B g : Nat} {v : Value} {l : List UInt8} {nm : ByteArray} {x : Int} (F : Interp) (hF : F.told.answers W.tape) (hr : Row W B v l) (hB : B ≤ W.heap.size) (hlen : l.length ≤ 70368744177664) (hb : Blk W g 20 [.iface 9 (.string nm), .iface 42 (.int .u64 x)]) (hw : (Lit.int .u64 x).wf = true) (hn : nm.data.toList.length ≤ 100) :
    Calls Ybaf.prog 15 #[v, .string ⟨fField.toArray⟩, .slice (some ⟨g, 0, none⟩) 2 2] W (Left W B v l (tField nm.data.toList x)) := by
  have hF' := answers_open hF
  have c0 := hb.cell (i := 0) rfl
  have c1 := hb.cell (i := 1) rfl
  have o1 := op9
  have o5 := op42
  have o4 := p_field
  have o2 := call21
  have o3 := fguard
  have HL := hide (show (tField nm.data.toList x).length ≤ 1000 + 0 by have := FmtText.itoa_length_le hw; simp only [tField, List.length_append, List.length_cons, List.length_nil]; omega)
  have ht0 := told_is F (text_field nm.data.toList (by omega) x hw) (by have := HL.out; omega)
  unfold fField at ht0 ⊢
  have HT := hide ht0
  clear ht0
  go_enter Ybaf.func15, Ybaf.ntmps15
  go_wp2_with (at_builtin; refine app_str rfl _ _ rfl rfl hr.drew _ rfl (by rw [HT.out]; have := HL.out; omega) hB ?_; intro v2 w2 hr2 hg2 ho2)
  go_ret
  refine ⟨_, rfl, ?_, grown_undrew hg2, Own.more ho2 (Nat.le_refl _)⟩
  rw [← HT.out]
  exact hr2

set_option maxRecDepth 100000 in
set_option maxHeartbeats 4000000 in
theorem af_ctx {W : World} {B g : Nat} {v : Value} {l : List UInt8} {ck ik : List UInt8} {x : Int} (F : Interp) (hF : F.told.answers W.tape) (hr : Row W B v l) (hB : B ≤ W.heap.size) (hlen : l.length ≤ 70368744177664) (hb : Blk W g 20 [.iface 22 (.agg (bc ck).toArray), .iface 22 (.agg (bc ik).toArray), .iface 3 (.int .i64 x)]) (h1 : ck.length = 16) (h2 : ik.length = 16) (hw : (Lit.int .i64 x).wf = true) :
    Calls Ybaf.prog 15 #[v, .string ⟨fCtx.toArray⟩, .slice (some ⟨g, 0, none⟩) 3 3] W (Left W B v l (tCtx ck ik x)) := by
  have hF' := answers_open hF
  have c0 := hb.cell (i := 0) rfl
  have c1 := hb.cell (i := 1) rfl
  have c2 := hb.cell (i := 2) rfl
  have o1 := op3
  have o5 := fun w => op22 "fmt.Sprintf" ck h1 w
  have o6 := fun w => op22 "fmt.Sprintf" ik h2 w
  have o4 := p_ctx
  have o2 := call21
  have o3 := fguard
  have HL := hide (show (tCtx ck ik x).length ≤ 1000 + 0 by have := FmtText.itoa_length_le hw; simp only [tCtx, List.length_append, List.length_cons, List.length_nil, FmtText.hexOf_length]; omega)
  have ht0 := told_is F (text_ctx ck ik h1 h2 x hw) (by have := HL.out; omega)
  unfold fCtx at ht0 ⊢
  have HT := hide ht0
  clear ht0
  go_enter Ybaf.func15, Ybaf.ntmps15
  go_wp2_with (at_builtin; refine app_str rfl _ _ rfl rfl hr.drew _ rfl (by rw [HT.out]; have := HL.out; omega) hB ?_; intro v2 w2 hr2 hg2 ho2)
  go_ret
  refine ⟨_, rfl, ?_, grown_undrew hg2, Own.more ho2 (Nat.le_refl _)⟩
  rw [← HT.out]
  exact hr2

set_option maxRecDepth 100000 in
set_option maxHeartbeats 4000000 in
theorem af_quin {W : World} {B g : Nat} {v : Value} {l : List UInt8} {r t c i a : List UInt8} {pa : Option Addr} {pc : Nat} (F : Interp) (hF : F.told.answers W.tape) (hr : Row W B v l) (hB : B ≤ W.heap.size) (hlen : l.length ≤ 70368744177664) (hb : Blk W g 20 [.iface 22 (.agg (bc r).toArray), .iface 25 (.slice pa t.length pc), .iface 22 (.agg (bc c).toArray), .iface 22 (.agg (bc i).toArray), .iface 22 (.agg (bc a).toArray)]) (h1 : r.length = 16) (h2 : c.length = 16) (h3 : i.length = 16) (h4 : a.length = 16) (hX : (FmtStop.operand "fmt.Sprintf" false 120 false (.iface 25 (.slice pa t.length pc))).run Ybaf.prog W = .ok (shape25, rdX pa t) W) (hn : pa = none → t = []) (ht : t.length ≤ 4194304) :
    Calls Ybaf.prog 15 #[v, .string ⟨fQuin.toArray⟩, .slice (some ⟨g, 0, none⟩) 5 5] W (Left W B v l (tQuin r t c i a)) := by
  have hF' := answers_open hF
  have c0 := hb.cell (i := 0) rfl
  have c1 := hb.cell (i := 1) rfl
  have c2 := hb.cell (i := 2) rfl
  have c3 := hb.cell (i := 3) rfl
  have c4 := hb.cell (i := 4) rfl
  have o5 := fun w => op22 "fmt.Sprintf" r h1 w
  have o6 := fun w => op22 "fmt.Sprintf" c h2 w
  have o7 := fun w => op22 "fmt.Sprintf" i h3 w
  have o8 := fun w => op22 "fmt.Sprintf" a h4 w
  have o4 := p_quin
  have o2 := call21
  have o3 := fguard
  have HL := hide (show (tQuin r t c i a).length ≤ 1000 + 2 * t.length by simp only [tQuin, List.length_append, List.length_cons, List.length_nil, FmtText.hexOf_length]; omega)
  have ht0 := told_is F (text_quin r t c i a pa h1 h2 h3 h4 hn (by omega)) (by have := HL.out; omega)
  unfold fQuin at ht0 ⊢
  have HT := hide ht0
  clear ht0
  go_enter Ybaf.func15, Ybaf.ntmps15
  go_wp2_with (at_builtin; refine app_str rfl _ _ rfl rfl hr.drew _ rfl (by rw [HT.out]; have := HL.out; omega) hB ?_; intro v2 w2 hr2 hg2 ho2)
  go_ret
  refine ⟨_, rfl, ?_, grown_undrew hg2, Own.more ho2 (Nat.le_refl _)⟩
  rw [← HT.out]
  exact hr2

end Go.Proofs.YbulkfhtoFmt.A
