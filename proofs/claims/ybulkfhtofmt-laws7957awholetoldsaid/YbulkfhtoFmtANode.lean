/-
  The node's fields, as decimals.
-/
import Derived.Test.YbulkfhtoFmtAQuin
namespace Go.Proofs.YbulkfhtoFmt.A
open Go.RowKit Go.Extern.Stop Go.Stop Go.Extern
attribute [local go_sem ↓] Go.wp_at_zero Go.wp_at_succ

/-- "next-ksi" -/
def sKsi : ByteArray := { data := #[110, 101, 120, 116, 45, 107, 115, 105] }
/-- "awaiting-resync" -/
def sRes : ByteArray := { data := #[97, 119, 97, 105, 116, 105, 110, 103, 45, 114, 101, 115, 121, 110, 99] }

theorem info61 : (Ybaf.prog.info? 61).map (·.size) = some 5 := by kernel_rfl
theorem Blk.all {W : World} {g ty : Nat} {l : List Value} (h : Blk W g ty l) : W.rangeAt g 0 l := h.range 0 (by simp)
theorem Blk.there {W : World} {g ty n : Nat} {l : List Value} (h : Blk W g ty l) (hl : l.length = n) : W.there g 0 n := fun j hj => by
  rw [Nat.zero_add]
  exact ⟨by rw [h.cell (List.getElem?_eq_getElem (by rw [hl]; exact hj))]; rfl, h.frozen j⟩

set_option maxRecDepth 100000 in
set_option maxHeartbeats 4000000 in
theorem intField_any {W : World} {s : ByteArray} {lo hi : Int} {a : Addr} :
    Calls Ybaf.prog 18 #[.string s, .int .u64 lo, .int .u64 hi, .pointer (some a)] W fun e w' => (∃ k, e = .returned (.agg #[.string s, .int .u64 lo, .int .u64 hi, .func (.func 23) #[] #[.pointer (some ⟨k, 0, none⟩)], .func (.func 24) #[] #[.pointer (some ⟨k, 0, none⟩)]]) ∧ Blk w' k 63 [.pointer (some a)] ∧ W.heap.size ≤ k) ∧ Below W.heap.size W w' := by
  obtain ⟨g, eg⟩ : ∃ g, g = W.heap.size := ⟨_, rfl⟩
  have hb1 : Blk ((W.alloc (.cells #[.pointer (some a)] 63)).alloc (.cells #[.string { data := #[] }, .int .u64 0, .int .u64 0, .nilFunc, .nilFunc] 61)) g 63 [.pointer (some a)] := by rw [eg]; exact (Blk.new W 63 [.pointer (some a)]).alloc _
  have hb2 : Blk ((W.alloc (.cells #[.pointer (some a)] 63)).alloc (.cells #[.string { data := #[] }, .int .u64 0, .int .u64 0, .nilFunc, .nilFunc] 61)) (g + 1) 61 [.string { data := #[] }, .int .u64 0, .int .u64 0, .nilFunc, .nilFunc] := by
    have := Blk.new (W.alloc (.cells #[.pointer (some a)] 63)) 61 [.string { data := #[] }, .int .u64 0, .int .u64 0, .nilFunc, .nilFunc]
    rw [World.size_alloc, ← eg] at this
    exact this
  have hbel : Below W.heap.size W ((W.alloc (.cells #[.pointer (some a)] 63)).alloc (.cells #[.string { data := #[] }, .int .u64 0, .int .u64 0, .nilFunc, .nilFunc] 61)) := ((Below.refl _ W).alloc (Nat.le_refl _) _).alloc (by simp) _
  go_enter Ybaf.func18, Ybaf.ntmps18
  go_upto_region 1 with (fail)
  simp only [← eg]
  generalize ((W.alloc (.cells #[.pointer (some a)] 63)).alloc (.cells #[.string { data := #[] }, .int .u64 0, .int .u64 0, .nilFunc, .nilFunc] 61)) = w2 at hb1 hb2 hbel ⊢
  have EG := hide eg
  clear eg
  go_wp2_with (refine wpList_store_mid (by rfl) 61 _ _ (by rfl) (g + 1) 0 #[.string s, .int .u64 lo, .int .u64 hi, .func (.func 23) #[] #[.pointer (some ⟨g, 0, none⟩)], .func (.func 24) #[] #[.pointer (some ⟨g, 0, none⟩)]] (by rfl) (by rfl) (hb2.there rfl) info61 (all_oneCell_toArray (by simp [Value.oneCell'])) ?_)
  have hb5 := hb2.whole (l' := [.string s, .int .u64 lo, .int .u64 hi, .func (.func 23) #[] #[.pointer (some ⟨g, 0, none⟩)], .func (.func 24) #[] #[.pointer (some ⟨g, 0, none⟩)]]) rfl
  refine bodyPost_ret (results_cell rfl rfl hb5.all _ Ybaf.underlying61 rfl info61) rfl ?_
  exact ⟨⟨g, rfl, hb1.kept (grown_sets _ _ _ _) (by simp), by rw [← EG.out]; exact Nat.le_refl _⟩, below_sets (by have := EG.out; omega) _ _ hbel⟩

/-- The ten cells of the two fields. -/
def fcells (p k : Nat) : List Value := [.string sKsi, .int .u64 0, .int .u64 6, .func (.func 23) #[] #[.pointer (some ⟨k, 0, none⟩)], .func (.func 24) #[] #[.pointer (some ⟨k, 0, none⟩)], .string sRes, .int .u64 0, .int .u64 1, .func (.func 19) #[] #[.pointer (some ⟨p, 0, none⟩)], .func (.func 20) #[] #[.pointer (some ⟨p, 0, none⟩)]]

set_option maxRecDepth 100000 in
set_option maxHeartbeats 4000000 in
theorem nf_any {W : World} {n : Nat} :
    Calls Ybaf.prog 14 #[.pointer (some ⟨n, 0, none⟩)] W fun e w' => (∃ d p k, e = .returned (.slice (some ⟨d, 0, none⟩) 2 2) ∧ Blk w' d 61 (fcells p k) ∧ Blk w' p 29 [.pointer (some ⟨n, 0, none⟩)] ∧ Blk w' k 63 [.pointer (some ⟨n, 3, none⟩)]) ∧ Below W.heap.size W w' := by
  have hb1 := Blk.new W 29 [.pointer (some ⟨n, 0, none⟩)]
  go_enter Ybaf.func14, Ybaf.ntmps14
  go_wp2_with fail
  refine intField_any.mono ?_
  rintro e w2 ⟨⟨k, rfl, hk, hkl⟩, hbel⟩
  have hp2 := hb1.below hbel (by simp)
  go_wp2_with fail
  go_ret
  exact ⟨⟨w2.heap.size, W.heap.size, k, rfl, Blk.new w2 61 (fcells W.heap.size k), hp2.alloc _, hk.alloc _⟩, (((Below.refl _ W).alloc (Nat.le_refl _) _).trans (hbel.mono (by simp))).alloc (Nat.le_trans (by simp) hbel.size) _⟩

theorem get1_any {w : World} {k n : Nat} {x : Int} (hk : Blk w k 63 [.pointer (some ⟨n, 3, none⟩)]) (hn : w.cell? ⟨n, 3, none⟩ = some (.int .i64 x)) :
    Calls Ybaf.prog 23 #[.pointer (some ⟨k, 0, none⟩)] w fun e w' => e = .returned (.int .u64 (IntKind.u64.wrap x)) ∧ w' = w := by
  have c0 := hk.cell (i := 0) rfl
  go_enter Ybaf.func23, Ybaf.ntmps23
  go_wp2
  go_ret
  exact ⟨rfl, rfl⟩
theorem get2_any {w : World} {p n : Nat} {rs : Bool} (hp : Blk w p 29 [.pointer (some ⟨n, 0, none⟩)]) (hn : w.cell? ⟨n, 2, none⟩ = some (.bool rs)) :
    Calls Ybaf.prog 19 #[.pointer (some ⟨p, 0, none⟩)] w fun e w' => e = .returned (.int .u64 (if rs then 1 else 0)) ∧ w' = w := by
  have c0 := hp.cell (i := 0) rfl
  cases rs <;> (go_enter Ybaf.func19, Ybaf.ntmps19; go_wp2; go_ret; exact ⟨rfl, rfl⟩)

theorem wrap_wf (x : Int) : (Lit.int .u64 (IntKind.u64.wrap x)).wf = true := by
  simp [Lit.wf, IntKind.min, IntKind.max, IntKind.wrap, IntKind.signed, IntKind.bits]
  omega
theorem bit_wf (b : Bool) : (Lit.int .u64 (if b then 1 else 0)).wf = true := by cases b <;> decide

theorem grown_made2 {a c : World} {o : Obj} (h : (a.alloc o).grownBy c (some a.heap.size)) : a.grownBy c none :=
  ⟨h.os, h.tape, h.output, Nat.le_trans (by simp) h.size, fun k hk _ => (h.block k (by simp; omega) (by simp; omega)).trans (Below.heap_alloc a o k hk)⟩

/-- The two lines. -/
def tFields (x : Int) (rs : Bool) : List UInt8 := tField sKsi.data.toList (IntKind.u64.wrap x) ++ tField sRes.data.toList (if rs then 1 else 0)

set_option maxRecDepth 100000 in
set_option maxHeartbeats 8000000 in
theorem ad_any {W : World} {B d p k n : Nat} {v : Value} {l : List UInt8} {x : Int} {rs : Bool} (F : Interp) (hF : F.told.answers W.tape) (hr : Row W B v l) (hB : B ≤ W.heap.size) (hlen : l.length ≤ 1000) (hd : Blk W d 61 (fcells p k)) (hp : Blk W p 29 [.pointer (some ⟨n, 0, none⟩)]) (hk : Blk W k 63 [.pointer (some ⟨n, 3, none⟩)])
    (hn3 : W.cell? ⟨n, 3, none⟩ = some (.int .i64 x)) (hn2 : W.cell? ⟨n, 2, none⟩ = some (.bool rs)) (b1 : d < B) (b2 : p < B) (b3 : k < B) (b4 : n < B) :
    Calls Ybaf.prog 13 #[v, .slice (some ⟨d, 0, none⟩) 2 2] W fun e w' => ∃ v', e = .returned v' ∧ Row w' B v' (l ++ tFields x rs) ∧ Below B W w' := by
  go_enter Ybaf.func13, Ybaf.ntmps13
  go_wp2_with fail
  go_loopw [0, 6, 9] (fun s _ y w' => ∃ j : Nat, y = .int .i64 (j : Int) ∧ j ≤ 2 ∧ Row w' B s (l ++ (if j = 0 then [] else if j = 1 then tField sKsi.data.toList (IntKind.u64.wrap x) else tFields x rs)) ∧ Below B W w') (fun _ _ y _ => 2 - (intOf y).toNat)
  case atStart => exact ⟨0, rfl, by omega, by simpa using hr, Below.refl _ _⟩
  case round =>
    obtain ⟨j, rfl, hj, hrow, hbel⟩ := hrel
    have hd' := hd.below hbel b1
    have hp' := hp.below hbel b2
    have hk' := hk.below hbel b3
    have hn3' : wr.cell? ⟨n, 3, none⟩ = some (.int .i64 x) := (hbel.cell (p := ⟨n, 3, none⟩) b4).trans hn3
    have hn2' : wr.cell? ⟨n, 2, none⟩ = some (.bool rs) := (hbel.cell (p := ⟨n, 2, none⟩) b4).trans hn2
    have hB' : B ≤ wr.heap.size := Nat.le_trans hB hbel.size
    have hF2 : F.told.answers wr.tape := by rw [hbel.tape]; exact hF
    rcases (show j = 0 ∨ j = 1 ∨ j = 2 by omega) with rfl | rfl | rfl
    · have c0 := hd'.cell (i := 0) rfl
      have c1 := hd'.cell (i := 1) rfl
      have c2 := hd'.cell (i := 2) rfl
      have c3 := hd'.cell (i := 3) rfl
      have c4 := hd'.cell (i := 4) rfl
      simp only [if_true, List.append_nil] at hrow
      have hbz := Blk.new wr 61 [.string { data := #[] }, .int .u64 0, .int .u64 0, .nilFunc, .nilFunc]
      go_upto_region 4 with (refine wpList_store_mid (by rfl) 61 _ _ (by rfl) wr.heap.size 0 #[.string sKsi, .int .u64 0, .int .u64 6, .func (.func 23) #[] #[.pointer (some ⟨k, 0, none⟩)], .func (.func 24) #[] #[.pointer (some ⟨k, 0, none⟩)]] (by rfl) (by rfl) (hbz.there rfl) info61 (all_oneCell_toArray (by simp [Value.oneCell'])) ?_)
      have hb4 := hbz.whole (l' := [.string sKsi, .int .u64 0, .int .u64 6, .func (.func 23) #[] #[.pointer (some ⟨k, 0, none⟩)], .func (.func 24) #[] #[.pointer (some ⟨k, 0, none⟩)]]) rfl
      have bel4 : Below B W ((wr.alloc (.cells [.string { data := #[] }, .int .u64 0, .int .u64 0, .nilFunc, .nilFunc].toArray 61)).setCells wr.heap.size 0 [.string sKsi, .int .u64 0, .int .u64 6, .func (.func 23) #[] #[.pointer (some ⟨k, 0, none⟩)], .func (.func 24) #[] #[.pointer (some ⟨k, 0, none⟩)]]) := below_sets hB' _ _ (hbel.alloc hB' _)
      have gr4 : wr.grownBy ((wr.alloc (.cells [.string { data := #[] }, .int .u64 0, .int .u64 0, .nilFunc, .nilFunc].toArray 61)).setCells wr.heap.size 0 [.string sKsi, .int .u64 0, .int .u64 6, .func (.func 23) #[] #[.pointer (some ⟨k, 0, none⟩)], .func (.func 24) #[] #[.pointer (some ⟨k, 0, none⟩)]]) none := grown_made2 (grown_sets _ _ _ _)
      generalize ((wr.alloc (.cells #[.string { data := #[] }, .int .u64 0, .int .u64 0, .nilFunc, .nilFunc] 61)).setCells wr.heap.size 0 [.string sKsi, .int .u64 0, .int .u64 6, .func (.func 23) #[] #[.pointer (some ⟨k, 0, none⟩)], .func (.func 24) #[] #[.pointer (some ⟨k, 0, none⟩)]]) = w4 at hb4 bel4 gr4 ⊢
      clear c0 c1 c2 c3 c4 hbz
      have e0 := hb4.cell (i := 0) rfl
      have e3 := hb4.cell (i := 3) rfl
      have hg0 := get1_any (w := w4.drew) (hk'.kept (grown_drew gr4) (by simp)) ((grown_drew gr4).cell hn3' (by simp))
      
      have HG := hide hg0
      clear hg0
      
      have hrow4 := hrow.grown gr4
      go_region_with (first | (go_at_call 23; refine HG.out.mono ?_; rintro e w5 ⟨rfl, ew⟩; obtain rfl := ew.symm; clear ew) | (go_at_call 15; refine (af_field F (by show F.told.answers w4.tape; rw [gr4.tape]; exact hF2) (hrow4.drew.alloc _) (by have := gr4.size; simp; omega) (by omega) (Blk.new w4.drew 20 [.iface 9 (.string sKsi), .iface 42 (.int .u64 (IntKind.u64.wrap x))]) (wrap_wf x) (by decide)).mono ?_; rintro e w6 ⟨v6, rfl, hr6, hg6, ho6⟩))
      all_goals
        go_wp2
        refine ⟨⟨1, by go_num, by omega, ?_, ?_⟩, by simp [intOf]⟩
        · simpa using hr6
        · exact Below.grown (bel4.drew.alloc (by show B ≤ w4.heap.size; have := gr4.size; omega) _) hg6 (by have := gr4.size; simp; omega) (fun q e => (hrow4.lt q e).1)
    · have c0 := hd'.cell (i := 5) rfl
      have c1 := hd'.cell (i := 6) rfl
      have c2 := hd'.cell (i := 7) rfl
      have c3 := hd'.cell (i := 8) rfl
      have c4 := hd'.cell (i := 9) rfl
      simp only [Nat.one_ne_zero, if_false, if_true] at hrow
      have HLT := hide (show (tField sKsi.data.toList (IntKind.u64.wrap x)).length ≤ 100 by have := FmtText.itoa_length_le (wrap_wf x); simp only [tField, List.length_append, List.length_cons, List.length_nil]; have h8 : sKsi.data.toList.length = 8 := rfl; omega)
      obtain ⟨bv, ebv⟩ : ∃ bv : Int, bv = if rs then 1 else 0 := ⟨_, rfl⟩
      have EBV := hide ebv
      have hbz := Blk.new wr 61 [.string { data := #[] }, .int .u64 0, .int .u64 0, .nilFunc, .nilFunc]
      go_upto_region 4 with (refine wpList_store_mid (by rfl) 61 _ _ (by rfl) wr.heap.size 0 #[.string sRes, .int .u64 0, .int .u64 1, .func (.func 19) #[] #[.pointer (some ⟨p, 0, none⟩)], .func (.func 20) #[] #[.pointer (some ⟨p, 0, none⟩)]] (by rfl) (by rfl) (hbz.there rfl) info61 (all_oneCell_toArray (by simp [Value.oneCell'])) ?_)
      have hb4 := hbz.whole (l' := [.string sRes, .int .u64 0, .int .u64 1, .func (.func 19) #[] #[.pointer (some ⟨p, 0, none⟩)], .func (.func 20) #[] #[.pointer (some ⟨p, 0, none⟩)]]) rfl
      have bel4 : Below B W ((wr.alloc (.cells [.string { data := #[] }, .int .u64 0, .int .u64 0, .nilFunc, .nilFunc].toArray 61)).setCells wr.heap.size 0 [.string sRes, .int .u64 0, .int .u64 1, .func (.func 19) #[] #[.pointer (some ⟨p, 0, none⟩)], .func (.func 20) #[] #[.pointer (some ⟨p, 0, none⟩)]]) := below_sets hB' _ _ (hbel.alloc hB' _)
      have gr4 : wr.grownBy ((wr.alloc (.cells [.string { data := #[] }, .int .u64 0, .int .u64 0, .nilFunc, .nilFunc].toArray 61)).setCells wr.heap.size 0 [.string sRes, .int .u64 0, .int .u64 1, .func (.func 19) #[] #[.pointer (some ⟨p, 0, none⟩)], .func (.func 20) #[] #[.pointer (some ⟨p, 0, none⟩)]]) none := grown_made2 (grown_sets _ _ _ _)
      generalize ((wr.alloc (.cells #[.string { data := #[] }, .int .u64 0, .int .u64 0, .nilFunc, .nilFunc] 61)).setCells wr.heap.size 0 [.string sRes, .int .u64 0, .int .u64 1, .func (.func 19) #[] #[.pointer (some ⟨p, 0, none⟩)], .func (.func 20) #[] #[.pointer (some ⟨p, 0, none⟩)]]) = w4 at hb4 bel4 gr4 ⊢
      clear c0 c1 c2 c3 c4 hbz
      have e0 := hb4.cell (i := 0) rfl
      have e3 := hb4.cell (i := 3) rfl
      have hg0 := get2_any (w := w4.drew) (hp'.kept (grown_drew gr4) (by simp)) ((grown_drew gr4).cell hn2' (by simp))
      rw [← ebv] at hg0
      have HG := hide hg0
      clear hg0
      clear ebv
      have hrow4 := hrow.grown gr4
      go_region_with (first | (go_at_call 19; refine HG.out.mono ?_; rintro e w5 ⟨rfl, ew⟩; obtain rfl := ew.symm; clear ew) | (go_at_call 15; refine (af_field F (by show F.told.answers w4.tape; rw [gr4.tape]; exact hF2) (hrow4.drew.alloc _) (by have := gr4.size; simp; omega) (by have := HLT.out; simp only [List.length_append]; omega) (Blk.new w4.drew 20 [.iface 9 (.string sRes), .iface 42 (.int .u64 bv)]) (by rw [EBV.out]; exact bit_wf rs) (by decide)).mono ?_; rintro e w6 ⟨v6, rfl, hr6, hg6, ho6⟩))
      all_goals
        go_wp2
        refine ⟨⟨2, by go_num, by omega, ?_, ?_⟩, by simp [intOf]⟩
        · rw [List.append_assoc, EBV.out] at hr6; exact hr6
        · exact Below.grown (bel4.drew.alloc (by show B ≤ w4.heap.size; have := gr4.size; omega) _) hg6 (by have := gr4.size; simp; omega) (fun q e => (hrow4.lt q e).1)
    · simp only [show ¬ (2 = 0) by omega, show ¬ (2 = 1) by omega, if_false] at hrow
      go_wp2
      go_ret
      exact ⟨_, rfl, hrow, hbel⟩
end Go.Proofs.YbulkfhtoFmt.A
