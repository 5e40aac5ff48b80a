/-
  The walks of LawS7956AWhole: the form built byte by byte; Form; the law.
-/
import Derived.Test.YbulkfhtaProg
import Derived.WalkKit
import Derived.WalkSpells
import Derived.WalkLawsBesides
import Derived.Deep.AppendLies
import Derived.Laws.EntriesVeiled
namespace Go.Proofs.Ybulkfhta.A
open Go.RowKit

theorem info5 : (Yba.prog.info? 5).map (fun i => (i.zero, i.size, i.bytes)) = some (some (.int .u8 0), 1, 1) := by kernel_rfl

def bv (b : UInt8) : Value := .int .u8 (b.toNat : Int)
def bvs (l : List UInt8) : List Value := l.map bv

theorem bvs_one (l : List UInt8) : ∀ u ∈ bvs l, u.oneCell' = true := by
  intro u hu; obtain ⟨b, _, rfl⟩ := List.mem_map.1 hu; rfl

/-- The slice under way: its row holds l, and has room. -/
def Row (w W : World) (v : Value) (cap : Nat) (l : List UInt8) : Prop :=
  v = .slice (some ⟨w.heap.size, 0, none⟩) l.length cap ∧ W.ownsRow w.heap.size 5 1 v l.length (bvs l) ∧ Below w.heap.size w W

theorem row_step {w wr w2 : World} {o : Obj} {cap : Nat} {l : List UInt8} {b : UInt8} (hb : Below w.heap.size w wr)
    (hown : w2.ownsRow w.heap.size 5 1 (.slice (some ⟨w.heap.size, 0, none⟩) (l.length + 1) cap) (l.length + 1) (bvs l ++ [bv b])) (hg : (wr.alloc o).grownBy w2 (some w.heap.size)) :
    Row w w2 (.slice (some ⟨w.heap.size, 0, none⟩) (l.length + 1) cap) cap (l ++ [b]) := by
  refine ⟨by simp, ?_, (hb.alloc hb.size o).grown hg (by simp; have := hb.size; omega) (fun k e => by obtain rfl := Option.some.inj e; exact Nat.le_refl _)⟩
  rw [List.length_append]
  show w2.ownsRow _ _ _ _ (l.length + 1) _
  unfold bvs at *
  rw [List.map_append]
  exact hown

theorem ret_str {x y : ByteArray} (h : x = y) : Ending.returned (.string x) = .returned (.string y) := by rw [h]

set_option maxRecDepth 100000 in
/-- The bytes of a row, made a string. -/
theorem row_string {w W : World} {v : Value} {cap : Nat} {l : List UInt8} (h : Row w W v cap l) : (convert 64 9 v).run Yba.prog W = .ok (.string ⟨l.toArray⟩) W := by
  obtain ⟨rfl, hown, _⟩ := h
  have := run_convert_bytes_arg (P := Yba.prog) W 64 5 Yba.underlying64 Yba.underlying5 w.heap.size 0 l.length cap (l.map fun b => (b.toNat : Int)) (by simp) (fun i hi => by
    rw [Nat.zero_add, hown.cellAt i (by omega)]
    unfold bvs bv
    rw [List.getElem?_map, List.getElem?_eq_getElem hi]
    simp [List.getD, hi]) 9 Yba.underlying9
  rw [this]
  congr 2
  unfold strOfNums
  congr 1
  simp [List.map_map, Function.comp_def]

/-- The expected form. -/
def formL (a p : List UInt8) : List UInt8 := if p = [] then a else a ++ 58 :: p

set_option maxRecDepth 100000 in
set_option maxHeartbeats 1000000 in
theorem form6 (a p : ByteArray) (w : World) (ha : a.size ≤ 1048576) (hp : p.size ≤ 1048576) :
    Calls Yba.prog 6 #[.string a, .string p] w fun e w' => e = .returned (.string ⟨(formL a.data.toList p.data.toList).toArray⟩) ∧ Below w.heap.size w w' := by
  have h1 : (a.size : Int) ≤ 1048576 := by omega
  have h2 : (p.size : Int) ≤ 1048576 := by omega
  obtain ⟨i0, hi, hz0, hz1, hz2⟩ := info_parts info5
  go_enter Yba.func6, Yba.ntmps6
  go_wp2_with (at_make; refine wpList_make_own _ rfl _ _ 64 rfl w.heap.size 5 i0 (.int .u8 0) 1 Yba.underlying64 hi hz0 hz1 .i64 .i64 _ (a.size + 1 + p.size) rfl rfl (by omega) (by rw [hz2]; omega) (by unfold maxLen; omega) (Nat.le_refl _) ?_; intro w1 hown1 hgrow1)
  go_loopw [5, 6] (fun v x W => ∃ k : Nat, k ≤ a.size ∧ x = .int .i64 (k : Int) ∧ Row w W v (a.size + 1 + p.size) (a.data.toList.take k)) (fun _ x _ => a.size - (intOf x).toNat)
  case atStart => exact ⟨0, by omega, rfl, rfl, hown1, ⟨hgrow1.os, hgrow1.tape, hgrow1.output, hgrow1.size, fun k hk => hgrow1.block k hk (by simp)⟩⟩
  case round =>
    clear hown1 hgrow1
    obtain ⟨k, hk, rfl, hrow⟩ := hrel
    have hlen : (a.data.toList.take k).length = k := by rw [List.length_take]; show min k a.size = k; omega
    by_cases hlt : k < a.size
    · obtain ⟨rfl, hown, hb⟩ := hrow
      have hlt' : (k : Int) < (a.size : Int) := by omega
      have hbs := hb.size
      rw [hlen] at hown ⊢
      have hnx : Hid (a.data.toList.take (k + 1) = a.data.toList.take k ++ [a[k]]) := by
        show _ = _
        rw [List.take_succ_eq_append_getElem (by simpa using hlt)]; rfl
      go_wp2_with (at_builtin; refine wpList_append_fits _ rfl _ _ 64 rfl w.heap.size 5 i0 1 Yba.underlying64 hi hz1 w.heap.size k (a.size + 1 + p.size) _ rfl (hown.alloc _) _ 1 1 [bv a[k]] rfl rfl (World.news_of_block (heap_alloc_new _ _)) (by simp [bv, Value.oneCell']) (by omega) ?_; intro w2 hown2 hgrow2)
      refine ⟨⟨k + 1, by omega, by go_num, ?_⟩, by simp [intOf]; omega⟩
      rw [hnx.out]
      have := row_step (l := a.data.toList.take k) (b := a[k]) (cap := a.size + 1 + p.size) hb (by rw [hlen]; exact hown2) hgrow2
      rw [hlen] at this
      exact this
    · have hlt' : ¬ (k : Int) < (a.size : Int) := by omega
      obtain rfl : k = a.size := by omega
      rw [List.take_of_length_le (by show a.size ≤ a.size; omega)] at hrow hlen
      by_cases hp0 : p.size = 0
      · have hd : ¬ (0 : Int) < (p.size : Int) := by omega
        have hcv := row_string hrow
        have hbel := hrow.2.2
        have hf : formL a.data.toList p.data.toList = a.data.toList := by
          unfold formL; rw [if_pos (List.eq_nil_of_length_eq_zero hp0)]
        have HF : Hid (formL a.data.toList p.data.toList = a.data.toList) := hf
        clear hrow hf hlen
        go_wp2
        go_ret
        exact ⟨ret_str (by rw [HF.out]), hbel⟩
      · have hd : (0 : Int) < (p.size : Int) := by omega
        obtain ⟨rfl, hown, hb⟩ := hrow
        have hbs := hb.size
        rw [hlen] at hown ⊢
        go_wp2_with (at_builtin; refine wpList_append_fits _ rfl _ _ 64 rfl w.heap.size 5 i0 1 Yba.underlying64 hi hz1 w.heap.size a.size (a.size + 1 + p.size) _ rfl (hown.alloc _) _ 1 1 [bv 58] rfl rfl (World.news_of_block (heap_alloc_new _ _)) (by simp [bv, Value.oneCell']) (by omega) ?_; intro w2 hown2 hgrow2)
        have hr0 := row_step (l := a.data.toList) (b := 58) (cap := a.size + 1 + p.size) hb (by rw [hlen]; exact hown2) hgrow2
        rw [hlen] at hr0
        clear hown2 hgrow2 hown hb hbs
        go_loopw [5, 7] (fun v x W => ∃ k : Nat, k ≤ p.size ∧ x = .int .i64 (k : Int) ∧ Row w W v (a.size + 1 + p.size) (a.data.toList ++ [58] ++ p.data.toList.take k)) (fun _ x _ => p.size - (intOf x).toNat)
        case atStart => exact ⟨0, by omega, rfl, by simpa using hr0⟩
        case round =>
          clear hr0
          obtain ⟨k, hk, rfl, hrow⟩ := hrel
          have hlen2 : (a.data.toList ++ [58] ++ p.data.toList.take k).length = a.size + 1 + k := by
            rw [List.length_append, List.length_append, hlen, List.length_take]; show a.size + 1 + min k p.size = _; omega
          by_cases hlt : k < p.size
          · obtain ⟨rfl, hown, hb⟩ := hrow
            have hlt' : (k : Int) < (p.size : Int) := by omega
            have hbs := hb.size
            rw [hlen2] at hown ⊢
            have hnx : Hid (a.data.toList ++ [58] ++ p.data.toList.take (k + 1) = (a.data.toList ++ [58] ++ p.data.toList.take k) ++ [p[k]]) := by
              show _ = _
              rw [List.take_succ_eq_append_getElem (by simpa using hlt)]; simp; rfl
            go_wp2_with (at_builtin; refine wpList_append_fits _ rfl _ _ 64 rfl w.heap.size 5 i0 1 Yba.underlying64 hi hz1 w.heap.size (a.size + 1 + k) (a.size + 1 + p.size) _ rfl (hown.alloc _) _ 1 1 [bv p[k]] rfl rfl (World.news_of_block (heap_alloc_new _ _)) (by simp [bv, Value.oneCell']) (by omega) ?_; intro w2 hown2 hgrow2)
            refine ⟨⟨k + 1, by omega, by go_num, ?_⟩, by simp [intOf]; omega⟩
            rw [hnx.out]
            have := row_step (b := p[k]) (cap := a.size + 1 + p.size) hb (by rw [hlen2]; exact hown2) hgrow2
            rw [hlen2] at this
            exact this
          · have hlt' : ¬ (k : Int) < (p.size : Int) := by omega
            obtain rfl : k = p.size := by omega
            rw [List.take_of_length_le (by show p.size ≤ p.size; omega)] at hrow
            have hcv := row_string hrow
            have hbel := hrow.2.2
            have hf : formL a.data.toList p.data.toList = a.data.toList ++ [58] ++ p.data.toList := by
              unfold formL; rw [if_neg (fun e => hp0 (by show p.data.toList.length = 0; rw [e]; rfl))]; simp
            have HF : Hid (formL a.data.toList p.data.toList = a.data.toList ++ [58] ++ p.data.toList) := hf
            clear hrow hf hlen hlen2
            go_wp2
            go_ret
            exact ⟨ret_str (by rw [HF.out]; first | rfl | simp), hbel⟩

theorem form5_empty (a p s : ByteArray) (f : Value) (w : World) (hp : p.size = 0) :
    Calls Yba.prog 5 #[.agg #[.string a, .string p, .string s, f]] w fun e w' => e = .returned (.string ⟨(formL a.data.toList p.data.toList).toArray⟩) ∧ Below w.heap.size w w' := by
  have hd : p.toList.isEmpty = true := by
    rw [ByteArray.toList_eq, List.eq_nil_of_length_eq_zero (show p.data.toList.length = 0 from hp)]; rfl
  have HF : Hid (formL a.data.toList p.data.toList = a.data.toList) := by
    show _ = _
    unfold formL; rw [if_pos (List.eq_nil_of_length_eq_zero hp)]
  go_enter Yba.func5, Yba.ntmps5
  go_wp2
  go_ret
  exact ⟨ret_str (by rw [HF.out]), (Below.refl _ _).alloc (Nat.le_refl _) _⟩

theorem form5_some (a p s : ByteArray) (f : Value) (w : World) (hp : p.size ≠ 0) (ha : a.size ≤ 1048576) (hp' : p.size ≤ 1048576) :
    Calls Yba.prog 5 #[.agg #[.string a, .string p, .string s, f]] w fun e w' => e = .returned (.string ⟨(formL a.data.toList p.data.toList).toArray⟩) ∧ Below w.heap.size w w' := by
  have hd : p.toList.isEmpty = false := by
    rw [ByteArray.toList_eq, List.isEmpty_eq_false_iff]; exact fun e => hp (by show p.data.toList.length = 0; rw [e]; rfl)
  have h1 : (a.size : Int) ≤ 1048576 := by omega
  have h2 : (p.size : Int) ≤ 1048576 := by omega
  have HF : Hid (formL a.data.toList p.data.toList = a.data.toList ++ 58 :: p.data.toList) := by
    show _ = _
    unfold formL; rw [if_neg (fun e => hp (by show p.data.toList.length = 0; rw [e]; rfl))]
  go_enter Yba.func5, Yba.ntmps5
  go_wp2
  go_ret
  exact ⟨ret_str (by rw [HF.out]; apply ByteArray.ext; simp), (Below.refl _ _).alloc (Nat.le_refl _) _⟩

theorem form5 (a p s : ByteArray) (f : Value) (w : World) (ha : a.size ≤ 1048576) (hp' : p.size ≤ 1048576) :
    Calls Yba.prog 5 #[.agg #[.string a, .string p, .string s, f]] w fun e w' => e = .returned (.string ⟨(formL a.data.toList p.data.toList).toArray⟩) ∧ Below w.heap.size w w' := by
  by_cases hp : p.size = 0
  · exact form5_empty a p s f w hp
  · exact form5_some a p s f w hp ha hp'

theorem nil_eq (w : World) : (binOp .eql 22 .nilFunc .nilFunc).run Yba.prog w = .ok (.bool true) w := by kernel_rfl

set_option maxRecDepth 100000 in
set_option maxHeartbeats 1000000 in
theorem walk (a p s : ByteArray) (ha : a.size ≤ 140737488351232) (hp : p.size ≤ 140737488351232) (hs : s.size ≤ 140737488351232) (w : World) :
    Calls Yba.prog 3 #[.string a, .string p, .string s] w fun e w' => e = .returned (.bool true) ∧ Below w.heap.size w w' := by
  have h1 : (a.size : Int) ≤ 140737488351232 := by omega
  have h2 : (p.size : Int) ≤ 140737488351232 := by omega
  have h3 : (s.size : Int) ≤ 140737488351232 := by omega
  by_cases hbig : (1048576 : Int) < (a.size : Int) + (p.size : Int) + (s.size : Int)
  · go_enter Yba.func3, Yba.ntmps3
    go_wp2
    go_ret
    exact ⟨rfl, Below.refl _ _⟩
  · go_enter Yba.func3, Yba.ntmps3
    go_wp2_with fail
    refine (form5 a p s _ _ (by omega) (by omega)).mono ?_
    rintro e w2 ⟨rfl, hb2⟩
    generalize hF : (⟨(formL a.data.toList p.data.toList).toArray⟩ : ByteArray) = F
    have hFs : F.size = if p.size = 0 then a.size else a.size + 1 + p.size := by
      rw [← hF]
      show (formL a.data.toList p.data.toList).toArray.size = _
      unfold formL
      by_cases hp0 : p.size = 0
      · rw [if_pos hp0, if_pos (List.eq_nil_of_length_eq_zero hp0)]; simp
      · rw [if_neg hp0, if_neg (fun e => hp0 (by show p.data.toList.length = 0; rw [e]; rfl))]; simp; show a.size + (p.size + 1) = _; omega
    have HFs : Hid (F.size = if p.size = 0 then a.size else a.size + 1 + p.size) := hFs
    have HF : Hid ((⟨(formL a.data.toList p.data.toList).toArray⟩ : ByteArray) = F) := hF
    clear hFs hF
    go_wp2_with fail
    refine (form6 a p w2 (by omega) (by omega)).mono ?_
    rintro e w3 ⟨rfl, hb3⟩
    rw [HF.out]
    have hz2 := hb2.size
    have cc : ∀ j, w3.cell? ⟨w.heap.size, j, none⟩ = (#[Value.string a, .string p, .string s, .nilFunc] : Array Value)[j]? := fun j => by
      rw [hb3.cell (p := ⟨w.heap.size, j, none⟩) (by simp at hz2 ⊢; omega), hb2.cell (p := ⟨w.heap.size, j, none⟩) (by simp)]
      simp
    have c0 := cc 0
    have c1 := cc 1
    have c2 := cc 2
    have c3 := cc 3
    simp at c0 c1 c2 c3
    clear cc
    have hbel : Below w.heap.size w w3 := (((Below.refl _ _).alloc (Nat.le_refl _) _).trans (hb2.mono (by simp))).trans (hb3.mono (by simp at hz2; omega))
    clear hb2 hb3 hz2
    have hnf := nil_eq
    by_cases hp0 : p.size = 0
    · have t1 : (p.size : Int) = 0 := by omega
      have t2 : (F.size : Int) = (a.size : Int) := by have := HFs.out; rw [if_pos hp0] at this; omega
      clear hp0
      go_wp2
      go_ret
      exact ⟨rfl, hbel⟩
    · have t1 : (0 : Int) < (p.size : Int) := by omega
      have t1' : ((p.size : Int) == 0) = false := by simpa using hp0
      have t2 : (F.size : Int) = (a.size : Int) + 1 + (p.size : Int) := by have := HFs.out; rw [if_neg hp0] at this; omega
      clear hp0
      go_wp2
      go_ret
      exact ⟨rfl, hbel⟩
end Go.Proofs.Ybulkfhta.A
