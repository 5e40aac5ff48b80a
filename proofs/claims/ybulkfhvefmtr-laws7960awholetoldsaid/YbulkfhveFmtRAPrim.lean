/-
  zzs7960aprim: the tokens of one primary.
-/
import Derived.Test.YbulkfhveFmtRAKit
namespace Go.Proofs.YbulkfhveFmtR.A
open Go.RowKit
attribute [local go_sem ↓] Go.wp_at_zero Go.wp_at_succ

def tNum : Tk := ⟨4, { data := #[49] }⟩
def tNull : Tk := ⟨3, { data := #[110, 117, 108, 108] }⟩
def tX : Tk := ⟨2, { data := #[120] }⟩
def tS : Tk := ⟨6, { data := #[34, 115, 34] }⟩
def tC : Tk := ⟨5, { data := #[39, 99, 39] }⟩
def tDot : Tk := ⟨7, { data := #[46] }⟩
def tTick : Tk := ⟨7, { data := #[39] }⟩
def tY : Tk := ⟨2, { data := #[121] }⟩
def tAll : Tk := ⟨3, { data := #[97, 108, 108] }⟩
def tPlus : Tk := ⟨6, { data := #[34, 43, 34] }⟩
def tFirst : Tk := ⟨2, { data := #[70, 105, 114, 115, 116] }⟩
def tRange : Tk := ⟨3, { data := #[114, 97, 110, 103, 101] }⟩
def tAccess : Tk := ⟨3, { data := #[97, 99, 99, 101, 115, 115] }⟩
/-- The name's first token. -/
def hd (k : Nat) : Tk := if k = 2 then tX else if k = 3 then tS else tC
/-- One suffix. -/
def sfx (c : UInt8) : List Tk :=
  if c.toNat % 6 = 0 then [tDot, tY] else if c.toNat % 6 = 1 then [tDot, tAll] else if c.toNat % 6 = 2 then [tDot, tPlus] else if c.toNat % 6 = 3 then [tTick, tFirst] else if c.toNat % 6 = 4 then [tTick, tRange] else [tTick, tAccess]
def sfxs (s : List UInt8) : List Tk := s.flatMap sfx
def prim (k : UInt8) (s : List UInt8) : List Tk :=
  if k.toNat % 5 = 0 then [tNum] else if k.toNat % 5 = 1 then [tNull] else hd (k.toNat % 5) :: sfxs s
theorem sfx_length (c : UInt8) : (sfx c).length = 2 := by
  unfold sfx
  repeat' split
  all_goals rfl
theorem sfxs_length (s : List UInt8) : (sfxs s).length = 2 * s.length := by
  induction s with
  | nil => rfl
  | cons c r ih => simp only [sfxs, List.flatMap_cons, List.length_append, sfx_length] at *; rw [ih]; simp; omega
theorem prim_length (k : UInt8) (s : List UInt8) : (prim k s).length ≤ 1 + 2 * s.length := by
  unfold prim
  repeat' split
  · simp
  · simp
  · simp [sfxs_length]; omega
theorem sfxs_take {s : List UInt8} {j : Nat} (h : j < s.length) : sfxs (s.take (j + 1)) = sfxs (s.take j) ++ sfx (s[j]'h) := by
  unfold sfxs
  rw [List.take_succ_eq_append_getElem h, List.flatMap_append]
  simp

def bc (l : List UInt8) : List Value := l.map fun b => .int .u8 (b.toNat : Int)
theorem bc_get (l : List UInt8) {i : Nat} (hi : i < l.length) : (bc l)[i]? = some (.int .u8 ((l[i]'hi).toNat : Int)) := by simp [bc, List.getElem?_eq_getElem hi]
/-- Bytes that lie below B. -/
structure Bytes (W : World) (B : Nat) (pa : Option Addr) (t : List UInt8) : Prop where
  form : 0 < t.length → ∃ b off, pa = some ⟨b, off, none⟩ ∧ b < B
  cell : ∀ b off, pa = some ⟨b, off, none⟩ → ∀ i (hi : i < t.length), W.cell? ⟨b, off + i, none⟩ = some (.int .u8 ((t[i]'hi).toNat : Int))
theorem Bytes.below {W W' : World} {B : Nat} {pa : Option Addr} {t : List UInt8} (h : Bytes W B pa t) (hb : Below B W W') : Bytes W' B pa t :=
  ⟨h.form, fun b off e i hi => by
    obtain ⟨b', off', e', hlt⟩ := h.form (by omega)
    rw [e] at e'
    cases e'
    exact (hb.cell (p := ⟨b, off + i, none⟩) hlt).trans (h.cell b off e i hi)⟩

theorem put_row {W w2 : World} {B : Nat} {v : Value} {l : List Tk} (hr : Row W B v l) (hb : Below W.heap.size W w2) : Row w2 B v l := hr.grown (below_size hb)

set_option maxRecDepth 100000 in
set_option maxHeartbeats 8000000 in
theorem prim_any {W : World} {B pc : Nat} {v : Value} {l : List Tk} {k : UInt8} {s : List UInt8} {pa : Option Addr} (hr : Row W B v l) (hB : B ≤ W.heap.size) (hs : Bytes W B pa s) (hlen : l.length ≤ 1000000) (hsl : s.length ≤ 65536) :
    Calls Ybaf.prog 5 #[.agg #[.int .u8 (k.toNat : Int), .slice pa s.length pc], v] W fun e w' => ∃ v', e = .returned v' ∧ Row w' B v' (l ++ prim k s) ∧ Below B W w' := by
  obtain ⟨g, eg⟩ : ∃ g, g = W.heap.size := ⟨_, rfl⟩
  have hb1 : Blk (W.alloc (.cells #[.int .u8 (k.toNat : Int), .slice pa s.length pc] 24)) g 24 [.int .u8 (k.toNat : Int), .slice pa s.length pc] := by rw [eg]; exact Blk.new W 24 _
  have hbel : Below B W (W.alloc (.cells #[.int .u8 (k.toNat : Int), .slice pa s.length pc] 24)) := (Below.refl _ W).alloc hB _
  have hr1 : Row (W.alloc (.cells #[.int .u8 (k.toNat : Int), .slice pa s.length pc] 24)) B v l := hr.alloc _
  go_enter Ybaf.func5, Ybaf.ntmps5
  go_upto_region 1 with (fail)
  simp only [← eg]
  have EG := hide eg
  clear eg
  generalize (W.alloc (.cells #[.int .u8 (k.toNat : Int), .slice pa s.length pc] 24)) = w1 at hb1 hbel hr1 ⊢
  have c0 := hb1.cell (i := 0) rfl
  have c1 := hb1.cell (i := 1) rfl
  have hk := k.toNat_lt
  go_upto_region 2 with (fail)
  have hB1 : B ≤ w1.heap.size := Nat.le_trans hB hbel.size
  by_cases k0 : k.toNat % 5 = 0
  · have k0' : (k.toNat : Int) % 5 = 0 := by omega
    go_wp2_with fail
    refine (tok_any tNum.k tNum.t).mono ?_
    rintro e w2 ⟨rfl, hb2⟩
    have hr2 := put_row hr1 hb2
    have bel2 : Below B W w2 := hbel.trans (hb2.mono hB1)
    have hB2 : B ≤ w2.heap.size := Nat.le_trans hB1 hb2.size
    go_wp2_with (at_builtin; refine app (v := v) rfl _ _ rfl rfl (hr2.alloc _) [tNum] _ _ rfl (lies_new _ _ [tNum]) (by simp; omega) (by simp; exact Nat.le_succ_of_le hB2) ?_; intro v3 w3 hr3 hg3)
    have bel3 : Below B W w3 := (bel2.alloc hB2 _).grown hg3 (by simp; exact Nat.le_succ_of_le hB2) (fun k e => (hr2.lt k e).1)
    go_ret
    exact ⟨_, rfl, by simpa [prim, k0] using hr3, bel3⟩
  by_cases k1 : k.toNat % 5 = 1
  · have k1' : (k.toNat : Int) % 5 = 1 := by omega
    go_wp2_with fail
    refine (tok_any tNull.k tNull.t).mono ?_
    rintro e w2 ⟨rfl, hb2⟩
    have hr2 := put_row hr1 hb2
    have bel2 : Below B W w2 := hbel.trans (hb2.mono hB1)
    have hB2 : B ≤ w2.heap.size := Nat.le_trans hB1 hb2.size
    go_wp2_with (at_builtin; refine app (v := v) rfl _ _ rfl rfl (hr2.alloc _) [tNull] _ _ rfl (lies_new _ _ [tNull]) (by simp; omega) (by simp; exact Nat.le_succ_of_le hB2) ?_; intro v3 w3 hr3 hg3)
    have bel3 : Below B W w3 := (bel2.alloc hB2 _).grown hg3 (by simp; exact Nat.le_succ_of_le hB2) (fun k e => (hr2.lt k e).1)
    go_ret
    exact ⟨_, rfl, by simpa [prim, k0, k1] using hr3, bel3⟩
  have EP := hide (show prim k s = hd (k.toNat % 5) :: sfxs s by simp [prim, k0, k1])
  have k0' : ¬ (k.toNat : Int) % 5 = 0 := by omega
  have k1' : ¬ (k.toNat : Int) % 5 = 1 := by omega
  have HGV := hide (show some g ≠ v.ownBlock from fun e => by have := (hr.lt _ e.symm).2; have := EG.out; omega)
  go_upto_block 0 with fail
  go_cut [1, 5, 10, 11, 12] from 13 to 40 (fun v' _ _ _ _ W' => Row W' B v' (l ++ [hd (k.toNat % 5)]) ∧ Below B W W' ∧ Blk W' g 24 [.int .u8 (k.toNat : Int), .slice pa s.length pc])
  case first =>
    rcases (show k.toNat % 5 = 2 ∨ k.toNat % 5 = 3 ∨ k.toNat % 5 = 4 by omega) with k2 | k2 | k2
    all_goals
      have HK2 := hide k2
    · have k2' : (k.toNat : Int) % 5 = 2 := by omega
      clear k2
      go_wp2_with fail
      refine (tok_any tX.k tX.t).mono ?_
      rintro e w2 ⟨rfl, hb2⟩
      have hr2 := put_row hr1 hb2
      have bel2 : Below B W w2 := hbel.trans (hb2.mono hB1)
      have hB2 : B ≤ w2.heap.size := Nat.le_trans hB1 hb2.size
      go_wp2_with (at_builtin; refine app (v := v) rfl _ _ rfl rfl (hr2.alloc _) [tX] _ _ rfl (lies_new _ _ [tX]) (by simp; omega) (by simp; exact Nat.le_succ_of_le hB2) ?_; intro v3 w3 hr3 hg3)
      have bel3 : Below B W w3 := (bel2.alloc hB2 _).grown hg3 (by simp; exact Nat.le_succ_of_le hB2) (fun k e => (hr2.lt k e).1)
      go_meet
      case rel => exact ⟨by rw [HK2.out]; exact hr3, bel3, ((hb1.below hb2 hb1.lt).alloc _).kept hg3 (fun e => HGV.out e)⟩
    · have k2' : (k.toNat : Int) % 5 = 3 := by omega
      clear k2
      go_wp2_with fail
      refine (tok_any tS.k tS.t).mono ?_
      rintro e w2 ⟨rfl, hb2⟩
      have hr2 := put_row hr1 hb2
      have bel2 : Below B W w2 := hbel.trans (hb2.mono hB1)
      have hB2 : B ≤ w2.heap.size := Nat.le_trans hB1 hb2.size
      go_wp2_with (at_builtin; refine app (v := v) rfl _ _ rfl rfl (hr2.alloc _) [tS] _ _ rfl (lies_new _ _ [tS]) (by simp; omega) (by simp; exact Nat.le_succ_of_le hB2) ?_; intro v3 w3 hr3 hg3)
      have bel3 : Below B W w3 := (bel2.alloc hB2 _).grown hg3 (by simp; exact Nat.le_succ_of_le hB2) (fun k e => (hr2.lt k e).1)
      go_meet
      case rel => exact ⟨by rw [HK2.out]; exact hr3, bel3, ((hb1.below hb2 hb1.lt).alloc _).kept hg3 (fun e => HGV.out e)⟩
    · have k2' : (k.toNat : Int) % 5 = 4 := by omega
      clear k2
      go_wp2_with fail
      refine (tok_any tC.k tC.t).mono ?_
      rintro e w2 ⟨rfl, hb2⟩
      have hr2 := put_row hr1 hb2
      have bel2 : Below B W w2 := hbel.trans (hb2.mono hB1)
      have hB2 : B ≤ w2.heap.size := Nat.le_trans hB1 hb2.size
      go_wp2_with (at_builtin; refine app (v := v) rfl _ _ rfl rfl (hr2.alloc _) [tC] _ _ rfl (lies_new _ _ [tC]) (by simp; omega) (by simp; exact Nat.le_succ_of_le hB2) ?_; intro v3 w3 hr3 hg3)
      have bel3 : Below B W w3 := (bel2.alloc hB2 _).grown hg3 (by simp; exact Nat.le_succ_of_le hB2) (fun k e => (hr2.lt k e).1)
      go_meet
      case rel => exact ⟨by rw [HK2.out]; exact hr3, bel3, ((hb1.below hb2 hb1.lt).alloc _).kept hg3 (fun e => HGV.out e)⟩
  case rest =>
  obtain ⟨hr5, bel5, hb5⟩ := hcut
  clear c0 c1 hr1 hb1 hbel hB1
  have c1 := hb5.cell (i := 1) rfl
  clear hb5
  have s0 : (0 : Int) ≤ (s.length : Int) := by omega
  have s1 : (s.length : Int) ≤ 65536 := by omega
  go_wp2_with fail
  go_loopw [1, 7, 44] (fun v' _ y W' => ∃ j : Nat, y = .int .i64 (j : Int) ∧ j ≤ s.length ∧ Row W' B v' (l ++ (hd (k.toNat % 5) :: sfxs (s.take j))) ∧ Below B W W') (fun _ _ y _ => s.length - (intOf y).toNat)
  case atStart => exact ⟨0, rfl, by omega, by simpa [sfxs] using hr5, bel5⟩
  case round =>
    obtain ⟨j, rfl, hj, hrow, hbl⟩ := hrel
    have j0 : (0 : Int) ≤ (j : Int) := by omega
    by_cases hlt : j < s.length
    · have j1 : (j : Int) < (s.length : Int) := by omega
      obtain ⟨b, off, rfl, hbB⟩ := hs.form (by omega)
      have q0 : wr.cell? ⟨b, off + j, none⟩ = some (.int .u8 ((s[j]'hlt).toNat : Int)) := (hs.below hbl).cell b off rfl j hlt
      obtain ⟨cc, ec⟩ : ∃ cc : UInt8, cc = s[j]'hlt := ⟨_, rfl⟩
      rw [← ec] at q0
      have EC := hide ec
      clear ec
      have hcc := cc.toNat_lt
      have hB3 : B ≤ wr.heap.size := Nat.le_trans hB hbl.size
      obtain ⟨L, eL⟩ : ∃ L, L = l ++ (hd (k.toNat % 5) :: sfxs (s.take j)) := ⟨_, rfl⟩
      have HLEN := hide (show L.length + 2 ≤ 1000000000000 by rw [eL]; simp [sfxs_length]; omega)
      have HEQ := hide (show L ++ sfx cc = l ++ (hd (k.toNat % 5) :: sfxs (s.take (j + 1))) by rw [eL, sfxs_take hlt, EC.out]; simp)
      rw [← eL] at hrow
      clear eL
      rcases (show cc.toNat % 6 = 0 ∨ cc.toNat % 6 = 1 ∨ cc.toNat % 6 = 2 ∨ cc.toNat % 6 = 3 ∨ cc.toNat % 6 = 4 ∨ cc.toNat % 6 = 5 by omega) with c6 | c6 | c6 | c6 | c6 | c6
      all_goals
        have HC6 := hide c6
      · have c6' : (cc.toNat : Int) % 6 = 0 := by omega
        clear c6
        go_wp2_with fail
        refine (tok_any tDot.k tDot.t).mono ?_
        rintro e w2 ⟨rfl, hb2⟩
        have hr2 := put_row hrow hb2
        have bel2 : Below B W w2 := hbl.trans (hb2.mono hB3)
        have hB2 : B ≤ w2.heap.size := Nat.le_trans hB3 hb2.size
        go_wp2_with fail
        refine (tok_any tY.k tY.t).mono ?_
        rintro e w3 ⟨rfl, hb3⟩
        have hr3 := put_row hr2 hb3
        have bel3 : Below B W w3 := bel2.trans (hb3.mono hB2)
        have hB4 : B ≤ w3.heap.size := Nat.le_trans hB2 hb3.size
        go_wp2_with (at_builtin; refine app (v := u1) rfl _ _ rfl rfl (hr3.alloc _) [tDot, tY] _ _ rfl (lies_new _ _ [tDot, tY]) HLEN.out (by simp; exact Nat.le_succ_of_le hB4) ?_; intro v4 w4 hr4 hg4)
        have bel4 : Below B W w4 := (bel3.alloc hB4 _).grown hg4 (by simp; exact Nat.le_succ_of_le hB4) (fun k e => (hr3.lt k e).1)
        refine ⟨⟨j + 1, by go_num, by omega, ?_, bel4⟩, by simp [intOf]; omega⟩
        rw [← HEQ.out, show sfx cc = [tDot, tY] from by simp [sfx, HC6.out]]
        exact hr4
      · have c6' : (cc.toNat : Int) % 6 = 1 := by omega
        clear c6
        go_wp2_with fail
        refine (tok_any tDot.k tDot.t).mono ?_
        rintro e w2 ⟨rfl, hb2⟩
        have hr2 := put_row hrow hb2
        have bel2 : Below B W w2 := hbl.trans (hb2.mono hB3)
        have hB2 : B ≤ w2.heap.size := Nat.le_trans hB3 hb2.size
        go_wp2_with fail
        refine (tok_any tAll.k tAll.t).mono ?_
        rintro e w3 ⟨rfl, hb3⟩
        have hr3 := put_row hr2 hb3
        have bel3 : Below B W w3 := bel2.trans (hb3.mono hB2)
        have hB4 : B ≤ w3.heap.size := Nat.le_trans hB2 hb3.size
        go_wp2_with (at_builtin; refine app (v := u1) rfl _ _ rfl rfl (hr3.alloc _) [tDot, tAll] _ _ rfl (lies_new _ _ [tDot, tAll]) HLEN.out (by simp; exact Nat.le_succ_of_le hB4) ?_; intro v4 w4 hr4 hg4)
        have bel4 : Below B W w4 := (bel3.alloc hB4 _).grown hg4 (by simp; exact Nat.le_succ_of_le hB4) (fun k e => (hr3.lt k e).1)
        refine ⟨⟨j + 1, by go_num, by omega, ?_, bel4⟩, by simp [intOf]; omega⟩
        rw [← HEQ.out, show sfx cc = [tDot, tAll] from by simp [sfx, HC6.out]]
        exact hr4
      · have c6' : (cc.toNat : Int) % 6 = 2 := by omega
        clear c6
        go_wp2_with fail
        refine (tok_any tDot.k tDot.t).mono ?_
        rintro e w2 ⟨rfl, hb2⟩
        have hr2 := put_row hrow hb2
        have bel2 : Below B W w2 := hbl.trans (hb2.mono hB3)
        have hB2 : B ≤ w2.heap.size := Nat.le_trans hB3 hb2.size
        go_wp2_with fail
        refine (tok_any tPlus.k tPlus.t).mono ?_
        rintro e w3 ⟨rfl, hb3⟩
        have hr3 := put_row hr2 hb3
        have bel3 : Below B W w3 := bel2.trans (hb3.mono hB2)
        have hB4 : B ≤ w3.heap.size := Nat.le_trans hB2 hb3.size
        go_wp2_with (at_builtin; refine app (v := u1) rfl _ _ rfl rfl (hr3.alloc _) [tDot, tPlus] _ _ rfl (lies_new _ _ [tDot, tPlus]) HLEN.out (by simp; exact Nat.le_succ_of_le hB4) ?_; intro v4 w4 hr4 hg4)
        have bel4 : Below B W w4 := (bel3.alloc hB4 _).grown hg4 (by simp; exact Nat.le_succ_of_le hB4) (fun k e => (hr3.lt k e).1)
        refine ⟨⟨j + 1, by go_num, by omega, ?_, bel4⟩, by simp [intOf]; omega⟩
        rw [← HEQ.out, show sfx cc = [tDot, tPlus] from by simp [sfx, HC6.out]]
        exact hr4
      · have c6' : (cc.toNat : Int) % 6 = 3 := by omega
        clear c6
        go_wp2_with fail
        refine (tok_any tTick.k tTick.t).mono ?_
        rintro e w2 ⟨rfl, hb2⟩
        have hr2 := put_row hrow hb2
        have bel2 : Below B W w2 := hbl.trans (hb2.mono hB3)
        have hB2 : B ≤ w2.heap.size := Nat.le_trans hB3 hb2.size
        go_wp2_with fail
        refine (tok_any tFirst.k tFirst.t).mono ?_
        rintro e w3 ⟨rfl, hb3⟩
        have hr3 := put_row hr2 hb3
        have bel3 : Below B W w3 := bel2.trans (hb3.mono hB2)
        have hB4 : B ≤ w3.heap.size := Nat.le_trans hB2 hb3.size
        go_wp2_with (at_builtin; refine app (v := u1) rfl _ _ rfl rfl (hr3.alloc _) [tTick, tFirst] _ _ rfl (lies_new _ _ [tTick, tFirst]) HLEN.out (by simp; exact Nat.le_succ_of_le hB4) ?_; intro v4 w4 hr4 hg4)
        have bel4 : Below B W w4 := (bel3.alloc hB4 _).grown hg4 (by simp; exact Nat.le_succ_of_le hB4) (fun k e => (hr3.lt k e).1)
        refine ⟨⟨j + 1, by go_num, by omega, ?_, bel4⟩, by simp [intOf]; omega⟩
        rw [← HEQ.out, show sfx cc = [tTick, tFirst] from by simp [sfx, HC6.out]]
        exact hr4
      · have c6' : (cc.toNat : Int) % 6 = 4 := by omega
        clear c6
        go_wp2_with fail
        refine (tok_any tTick.k tTick.t).mono ?_
        rintro e w2 ⟨rfl, hb2⟩
        have hr2 := put_row hrow hb2
        have bel2 : Below B W w2 := hbl.trans (hb2.mono hB3)
        have hB2 : B ≤ w2.heap.size := Nat.le_trans hB3 hb2.size
        go_wp2_with fail
        refine (tok_any tRange.k tRange.t).mono ?_
        rintro e w3 ⟨rfl, hb3⟩
        have hr3 := put_row hr2 hb3
        have bel3 : Below B W w3 := bel2.trans (hb3.mono hB2)
        have hB4 : B ≤ w3.heap.size := Nat.le_trans hB2 hb3.size
        go_wp2_with (at_builtin; refine app (v := u1) rfl _ _ rfl rfl (hr3.alloc _) [tTick, tRange] _ _ rfl (lies_new _ _ [tTick, tRange]) HLEN.out (by simp; exact Nat.le_succ_of_le hB4) ?_; intro v4 w4 hr4 hg4)
        have bel4 : Below B W w4 := (bel3.alloc hB4 _).grown hg4 (by simp; exact Nat.le_succ_of_le hB4) (fun k e => (hr3.lt k e).1)
        refine ⟨⟨j + 1, by go_num, by omega, ?_, bel4⟩, by simp [intOf]; omega⟩
        rw [← HEQ.out, show sfx cc = [tTick, tRange] from by simp [sfx, HC6.out]]
        exact hr4
      · have c6' : (cc.toNat : Int) % 6 = 5 := by omega
        clear c6
        go_wp2_with fail
        refine (tok_any tTick.k tTick.t).mono ?_
        rintro e w2 ⟨rfl, hb2⟩
        have hr2 := put_row hrow hb2
        have bel2 : Below B W w2 := hbl.trans (hb2.mono hB3)
        have hB2 : B ≤ w2.heap.size := Nat.le_trans hB3 hb2.size
        go_wp2_with fail
        refine (tok_any tAccess.k tAccess.t).mono ?_
        rintro e w3 ⟨rfl, hb3⟩
        have hr3 := put_row hr2 hb3
        have bel3 : Below B W w3 := bel2.trans (hb3.mono hB2)
        have hB4 : B ≤ w3.heap.size := Nat.le_trans hB2 hb3.size
        go_wp2_with (at_builtin; refine app (v := u1) rfl _ _ rfl rfl (hr3.alloc _) [tTick, tAccess] _ _ rfl (lies_new _ _ [tTick, tAccess]) HLEN.out (by simp; exact Nat.le_succ_of_le hB4) ?_; intro v4 w4 hr4 hg4)
        have bel4 : Below B W w4 := (bel3.alloc hB4 _).grown hg4 (by simp; exact Nat.le_succ_of_le hB4) (fun k e => (hr3.lt k e).1)
        refine ⟨⟨j + 1, by go_num, by omega, ?_, bel4⟩, by simp [intOf]; omega⟩
        rw [← HEQ.out, show sfx cc = [tTick, tAccess] from by simp [sfx, HC6.out]]
        exact hr4
    · have j1 : ¬ (j : Int) < (s.length : Int) := by omega
      obtain rfl : j = s.length := by omega
      rw [List.take_length, ← EP.out] at hrow
      go_wp2
      go_ret
      exact ⟨_, rfl, hrow, hbl⟩
end Go.Proofs.YbulkfhveFmtR.A
