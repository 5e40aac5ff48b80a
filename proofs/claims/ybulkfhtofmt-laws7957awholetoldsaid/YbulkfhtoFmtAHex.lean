/-
  zzs7957ahex, zzs7957audec, zzs7957aidec.
-/
import Derived.Test.YbulkfhtoFmtAKit
import Derived.Stop.FmtTextSlices
namespace Go.Proofs.YbulkfhtoFmt.A
open Go.RowKit
open Go.Extern (FmtText.hexOf FmtText.digit)
attribute [local go_sem ↓] Go.wp_at_zero Go.wp_at_succ

/-- "0123456789abcdef" -/
def hexD : ByteArray := { data := #[48, 49, 50, 51, 52, 53, 54, 55, 56, 57, 97, 98, 99, 100, 101, 102] }
theorem hexD_at (k : Nat) (hk : k < 16) (h : k < hexD.size) : hexD[k]'h = FmtText.digit false k := by
  have hall : ∀ k : Fin 16, hexD[k.1]'(by have := k.2; exact this) = FmtText.digit false k.1 := by decide
  exact hall ⟨k, hk⟩

theorem and15 (c : UInt8) : bits .and .u8 (c.toNat : Int) 15 = ((c.toNat % 16 : Nat) : Int) := by
  have hall : ∀ k : Fin 256, bits .and .u8 (k.1 : Int) 15 = ((k.1 % 16 : Nat) : Int) := by decide +kernel
  exact hall ⟨c.toNat, c.toNat_lt⟩

theorem hexOf_append (u : Bool) : ∀ (l m : List UInt8), FmtText.hexOf u (l ++ m) = FmtText.hexOf u l ++ FmtText.hexOf u m
  | [], m => rfl
  | c :: r, m => by simp [FmtText.hexOf, hexOf_append u r m]
theorem hexOf_length (u : Bool) : ∀ l : List UInt8, (FmtText.hexOf u l).length = 2 * l.length
  | [] => rfl
  | c :: r => by simp [FmtText.hexOf, hexOf_length u r]; omega

set_option maxRecDepth 100000 in
set_option maxHeartbeats 8000000 in
theorem hex_any {W : World} {B c : Nat} {v : Value} {l t : List UInt8} {pa : Option Addr} (hr : Row W B v l) (hs : Bytes W pa t) (hne : ∀ b off, pa = some ⟨b, off, none⟩ → 0 < t.length → some b ≠ v.ownBlock) (hlen : l.length + 2 * t.length ≤ 70368744177664) (hB : B ≤ W.heap.size) :
    Calls Ybaf.prog 7 #[v, .slice pa t.length c] W fun e w' => ∃ v', e = .returned v' ∧ Row w' B v' (l ++ FmtText.hexOf false t) ∧ W.grownBy w' v.ownBlock ∧ Own W v v' := by
  have t0 : (0 : Int) ≤ (t.length : Int) := by omega
  have t1 : (t.length : Int) ≤ 70368744177664 := by omega
  go_enter Ybaf.func7, Ybaf.ntmps7
  go_wp2_with fail
  go_loopw [0, 5] (fun s y w' => ∃ j : Nat, y = .int .i64 (j : Int) ∧ j ≤ t.length ∧ Row w' B s (l ++ FmtText.hexOf false (t.take j)) ∧ W.grownBy w' v.ownBlock ∧ Own W v s) (fun _ y _ => t.length - (intOf y).toNat)
  case atStart => exact ⟨0, rfl, by omega, by simpa [FmtText.hexOf] using hr, grown_refl _ _, Own.refl _ _⟩
  case round =>
    obtain ⟨j, rfl, hj, hrow, hg, hown⟩ := hrel
    have j0 : (0 : Int) ≤ (j : Int) := by omega
    by_cases hlt : j < t.length
    · have j1 : (j : Int) < (t.length : Int) := by omega
      obtain ⟨b, off, rfl⟩ := hs.form (by omega)
      have hbW := World.block_lt_of_cell? _ _ (hs.cell b off rfl 0 (by omega))
      have q0 : wr.cell? ⟨b, off + j, none⟩ = some (.int .u8 ((t[j]'hlt).toNat : Int)) := hg.cell (hs.cell b off rfl j hlt) (hne b off rfl (by omega))
      obtain ⟨cc, ec⟩ : ∃ cc : UInt8, cc = t[j]'hlt := ⟨_, rfl⟩
      rw [← ec] at q0
      have EC := hide ec
      clear ec
      obtain ⟨k1, e1⟩ : ∃ k : Nat, (cc.toNat : Int) / 16 = (k : Int) := ⟨cc.toNat / 16, by omega⟩
      obtain ⟨k2, e2⟩ : ∃ k : Nat, bits .and .u8 (cc.toNat : Int) 15 = (k : Int) := ⟨cc.toNat % 16, and15 cc⟩
      have c1 := cc.toNat_lt
      have b1 : (k1 : Int) < 16 := by omega
      have b2 : (k2 : Int) < 16 := by rw [← e2, and15]; omega
      have n1 : (0 : Int) ≤ (k1 : Int) := by omega
      have n2 : (0 : Int) ≤ (k2 : Int) := by omega
      have n1' : k1 < 16 := by omega
      have n2' : k2 < 16 := by omega
      have hlen' : (l ++ FmtText.hexOf false (t.take j)).length + 2 ≤ 140737488355328 := by rw [List.length_append, hexOf_length, List.length_take]; omega
      have hB' : B ≤ wr.heap.size := Nat.le_trans hB hg.size
      obtain ⟨va, vcap, ev⟩ := hrow.form
      obtain ⟨L, eL⟩ : ∃ L, L = l ++ FmtText.hexOf false (t.take j) := ⟨_, rfl⟩
      rw [← eL] at hrow ev hlen'
      have HEQ := hide (show L ++ [hexD[k1]'n1', hexD[k2]'n2'] = l ++ FmtText.hexOf false (t.take (j + 1)) by
        rw [eL, List.take_succ_eq_append_getElem hlt, hexOf_append, List.append_assoc, ← EC.out]
        congr 2
        have d1 : k1 = cc.toNat / 16 := by omega
        have d2 : k2 = cc.toNat % 16 := by rw [and15] at e2; omega
        rw [hexD_at k1 n1' n1', hexD_at k2 n2' n2', d1, d2]
        rfl)
      clear eL
      subst ev
      go_upto_region 4 with (fail)
      go_region_law (refine step_sl (by rfl) _ _ (by rfl) (by rfl) (by exact (hrow.drew).alloc _) [hexD[k1]'n1', hexD[k2]'n2'] _ _ (by rfl) (by exact lies_new _ _ _) (by exact hlen') (by simp; omega) ?_; intro v2 w2 hr2 hg2 hn2 ho2)
      all_goals
        go_wp2
        refine ⟨⟨j + 1, by go_num, by omega, ?_, hown.grown hg (grown_made (o := _) (grown_undrew hg2)), ?_⟩, by simp [intOf]; omega⟩
        · rw [← HEQ.out]; exact hr2
        · refine hown.trans hg.size (Own.more ho2 (by simp))
    · have j1 : ¬ (j : Int) < (t.length : Int) := by omega
      obtain rfl : j = t.length := by omega
      rw [List.take_length] at hrow
      go_wp2
      go_ret
      exact ⟨_, rfl, hrow, hg, hown⟩

/-! ### decimal -/
open Go.Lib (decDigits)
def dd (u : Nat) : List UInt8 := if u = 0 then [] else decDigits u
theorem dd_step {u : Nat} (h : u ≠ 0) : dd u = dd (u / 10) ++ [UInt8.ofNat (48 + u % 10)] := by
  unfold dd
  rw [if_neg h, decDigits]
  by_cases h1 : u < 10
  · rw [dif_pos h1, if_pos (by omega), show u % 10 = u by omega]; rfl
  · rw [dif_neg h1, if_neg (by omega)]

theorem info56 : (Ybaf.prog.info? 56).map (fun i => (i.zero, i.size, i.bytes)) = some (some (.agg (List.replicate 20 (.int .u8 0)).toArray), 20, 20) := by kernel_rfl

set_option maxRecDepth 100000 in
set_option maxHeartbeats 8000000 in
theorem dec_any {W : World} {B u : Nat} {v : Value} {l : List UInt8} (hr : Row W B v l) (hu : u < 18446744073709551616) (hlen : l.length ≤ 70368744177664) (hB : B ≤ W.heap.size) :
    Calls Ybaf.prog 6 #[v, .int .u64 (u : Int)] W fun e w' => ∃ v', e = .returned v' ∧ Row w' B v' (l ++ decDigits u) ∧ W.grownBy w' v.ownBlock ∧ Own W v v' := by
  obtain ⟨va, vcap, rfl⟩ := hr.form
  by_cases h0 : u = 0
  · subst h0
    go_enter Ybaf.func6, Ybaf.ntmps6
    go_wp2_with (at_builtin; refine app_sl rfl _ _ rfl rfl (hr.alloc _) [48] _ _ rfl (lies_new _ _ _) (by simp; omega) (by simp; omega) ?_; intro v2 w2 hr2 hg2 hn2 ho2)
    go_ret
    exact ⟨_, rfl, by rw [show decDigits 0 = [48] by rw [decDigits]; rfl]; exact hr2, grown_made hg2, Own.more ho2 (by simp)⟩
  have uz : ((u : Int) == 0) = false := by simpa using h0
  have upos : (0 : Int) < (u : Int) := by omega
  go_enter Ybaf.func6, Ybaf.ntmps6
  go_upto_region 4 with (fail)
  obtain ⟨g, eg⟩ : ∃ g, g = W.heap.size := ⟨_, rfl⟩
  have hb0 : Blk (W.alloc (.cells #[.int .u8 0, .int .u8 0, .int .u8 0, .int .u8 0, .int .u8 0, .int .u8 0, .int .u8 0, .int .u8 0, .int .u8 0, .int .u8 0, .int .u8 0, .int .u8 0, .int .u8 0, .int .u8 0, .int .u8 0, .int .u8 0, .int .u8 0, .int .u8 0, .int .u8 0, .int .u8 0] 56)) g 56 (List.replicate 20 (.int .u8 0)) := by
    rw [eg]; exact heap_alloc_new _ _
  have hg0 := World.grownBy_alloc W (.cells #[.int .u8 0, .int .u8 0, .int .u8 0, .int .u8 0, .int .u8 0, .int .u8 0, .int .u8 0, .int .u8 0, .int .u8 0, .int .u8 0, .int .u8 0, .int .u8 0, .int .u8 0, .int .u8 0, .int .u8 0, .int .u8 0, .int .u8 0, .int .u8 0, .int .u8 0, .int .u8 0] 56) none
  generalize (W.alloc (.cells #[.int .u8 0, .int .u8 0, .int .u8 0, .int .u8 0, .int .u8 0, .int .u8 0, .int .u8 0, .int .u8 0, .int .u8 0, .int .u8 0, .int .u8 0, .int .u8 0, .int .u8 0, .int .u8 0, .int .u8 0, .int .u8 0, .int .u8 0, .int .u8 0, .int .u8 0, .int .u8 0] 56)) = w1 at hb0 hg0 ⊢
  rw [← eg]
  have EG := hide eg
  have HDD := hide (show decDigits u = dd u by unfold dd; rw [if_neg h0])
  have HU := hide hu
  have UNZ := hide h0
  clear eg uz h0
  go_wp2_with fail
  go_loopw [1, 6] (fun uv iv w' => ∃ (q i : Nat) (ds : List UInt8), uv = .int .u64 (q : Int) ∧ iv = .int .i64 (i : Int) ∧ i ≤ 20 ∧ q < 10 ^ i ∧ q < 18446744073709551616 ∧ ds.length = 20 - i ∧ dd u = dd q ++ ds ∧ Blk w' g 56 (List.replicate i (.int .u8 0) ++ bc ds) ∧ W.grownBy w' none) (fun uv _ _ => (intOf uv).toNat)
  case atStart => exact ⟨u, 20, [], rfl, rfl, by omega, by omega, hu, rfl, by simp, hb0, hg0⟩
  case round =>
    clear hb0 hg0 upos hu
    obtain ⟨q, i, ds, rfl, rfl, hi, hq, hq2, hds, hdd, hb, hg⟩ := hrel
    have HQ := hide hq
    have HD := hide hdd
    have HDS := hide hds
    clear hq hdd hds
    have i0 : (0 : Int) ≤ (i : Int) := by omega
    have i1 : (i : Int) ≤ 20 := by omega
    by_cases hq0 : q = 0
    · subst hq0
      have hr3 := hr.grown hg
      have hlt : W.heap.size ≤ wr.heap.size := hg.size
      have hdl : ds = decDigits u := by rw [HDD.out, HD.out]; simp [dd]
      have hsz : ds.length = 20 - i := HDS.out
      have hpos : 0 < (decDigits u).length := by
        rw [HDD.out]
        unfold dd
        split
        · rename_i h; exact absurd h UNZ.out
        · rw [decDigits]; split <;> simp
      have i2 : (i : Int) < 20 := by rw [hdl] at hsz; omega
      have i3 : i < 20 := by omega
      have e20 : (20 - i : Nat) = ds.length := by omega
      have hlies : ∀ j u, (bc ds)[j]? = some u → wr.cell? ((⟨g, i, none⟩ : Addr).add j) = some u := fun j u hu => by
        rw [Addr.add_mid]
        refine hb.cell ?_
        rw [List.getElem?_append_right (by simp)]
        simpa using hu
      have HDL := hide hdl
      have HSZ := hide hsz
      have hpos' : 0 < ds.length := by omega
      clear hdl hsz hpos
      go_wp2_with (at_builtin; refine app_sl rfl _ _ rfl rfl hr3 ds _ _ rfl hlies (by have := HSZ.out; omega) (by omega) ?_; intro v2 w2 hr4 hg4 hn4 ho4)
      go_ret
      refine ⟨_, rfl, by rw [← HDL.out]; exact hr4, grown_trans (row := (Value.slice va l.length vcap).ownBlock) ⟨hg.os, hg.tape, hg.output, hg.size, fun k hk _ => hg.block k hk (by simp)⟩ hg4 (.inl rfl), Own.more ho4 hlt⟩
    · have q1 : (0 : Int) < (q : Int) := by omega
      have hi0 : 0 < i := by
        rcases Nat.eq_zero_or_pos i with e | e
        · have := HQ.out; rw [e] at this; omega
        · exact e
      obtain ⟨j, rfl⟩ : ∃ j, i = j + 1 := ⟨i - 1, by omega⟩
      have ej : ((j + 1 : Nat) : Int) - 1 = (j : Int) := by omega
      have j0 : (0 : Int) ≤ (j : Int) := by omega
      have j1 : (j : Int) < 20 := by omega
      obtain ⟨r, er⟩ : ∃ r : Nat, (q : Int) % 10 = (r : Int) := ⟨q % 10, by omega⟩
      obtain ⟨d, ed⟩ : ∃ d : Nat, (q : Int) / 10 = (d : Int) := ⟨q / 10, by omega⟩
      have r1 : (r : Int) < 10 := by omega
      have r0 : (0 : Int) ≤ (r : Int) := by omega
      have ED := hide ed
      have ER := hide er
      have cj : wr.cell? ⟨g, j, none⟩ = some (.int .u8 0) := hb.cell (by rw [List.getElem?_append_left (by simp)]; simp)
      have fj := hb.frozen j
      have hr10 : r = q % 10 := by omega
      have hd10 : d = q / 10 := by omega
      have FIN := hide (show d < 10 ^ j ∧ d < 18446744073709551616 ∧ (UInt8.ofNat (48 + r) :: ds).length = 20 - j ∧ dd u = dd d ++ (UInt8.ofNat (48 + r) :: ds) ∧ d < q by
        refine ⟨?_, by omega, ?_, ?_, by omega⟩
        · have := HQ.out
          rw [Nat.pow_succ] at this
          omega
        · have := HDS.out
          rw [List.length_cons]
          omega
        · rw [HD.out, dd_step hq0, hd10, hr10]
          simp)
      have BK := hide (show Blk (wr.setCell ⟨g, j, none⟩ (.int .u8 (48 + (r : Int)))) g 56 (List.replicate j (.int .u8 0) ++ bc (UInt8.ofNat (48 + r) :: ds)) by
        have h := hb.store j (.int .u8 (48 + (r : Int)))
        rw [List.replicate_succ', List.append_assoc, List.set_append] at h
        simp only [List.length_replicate, Nat.sub_self, List.cons_append, List.nil_append, List.set_cons_zero, Nat.lt_irrefl, if_false] at h
        have e : (Value.int .u8 (48 + (r : Int))) = .int .u8 (((UInt8.ofNat (48 + r)).toNat : Nat) : Int) := by
          rw [UInt8.toNat_ofNat']
          congr 1
          omega
        rw [e] at h ⊢
        exact h)
      have GK := hide (show W.grownBy (wr.setCell ⟨g, j, none⟩ (.int .u8 (48 + (r : Int)))) none from grown_trans hg (grown_set _ _ _) (.inr fun g' e => by have := EG.out; simp at e; omega))
      clear hr10 hd10 hb hg
      go_wp2
      obtain ⟨f1, f2, f3, f4, f5⟩ := FIN.out
      exact ⟨⟨d, j, _, rfl, rfl, by omega, f1, f2, f3, f4, BK.out, GK.out⟩, by simp [intOf]; omega⟩

theorem wrap_back {n : Nat} (h0 : 0 < n) (h1 : n ≤ 9223372036854775808) : IntKind.u64.wrap (-IntKind.u64.wrap (-(n : Int))) = (n : Int) := by
  simp [IntKind.wrap, IntKind.signed, IntKind.bits]
  omega

set_option maxRecDepth 100000 in
set_option maxHeartbeats 8000000 in
theorem idec_any {W : World} {B : Nat} {x : Int} {v : Value} {l : List UInt8} (hr : Row W B v l) (h0 : -9223372036854775808 ≤ x) (h1 : x ≤ 9223372036854775807) (hlen : l.length ≤ 35184372088832) (hB : B ≤ W.heap.size) :
    Calls Ybaf.prog 8 #[v, .int .i64 x] W fun e w' => ∃ v', e = .returned v' ∧ Row w' B v' (l ++ Go.Lib.itoa x) ∧ W.grownBy w' v.ownBlock ∧ Own W v v' := by
  obtain ⟨va, vcap, rfl⟩ := hr.form
  by_cases hx : x < 0
  · obtain ⟨n, hn, rfl⟩ : ∃ n : Nat, 0 < n ∧ x = -(n : Int) := ⟨x.natAbs, by omega, by omega⟩
    have HI := hide (show Go.Lib.itoa (-(n : Int)) = 45 :: decDigits n by unfold Go.Lib.itoa; rw [if_pos (by omega)]; simp)
    go_enter Ybaf.func8, Ybaf.ntmps8
    go_wp2_with (at_builtin; refine app_sl rfl _ _ rfl rfl (hr.alloc _) [45] _ _ rfl (lies_new _ _ _) (by simp; omega) (by simp; omega) ?_; intro v2 w2 hr2 hg2 hn2 ho2)
    rw [wrap_back (by omega) (by omega)]
    refine (dec_any hr2 (u := n) (by omega) (by simp; omega) (by have := hg2.size; simp at this; omega)).mono ?_
    rintro e w3 ⟨v3, rfl, hr3, hg3, ho3⟩
    go_wp2
    go_ret
    refine ⟨_, rfl, ?_, ?_, ?_⟩
    · rw [HI.out]
      have e : l ++ 45 :: decDigits n = (l ++ [45]) ++ decDigits n := by simp
      rw [e]; exact hr3
    · exact (Own.more (W := W) ho2 (by simp)).grown (grown_made hg2) hg3
    · exact (Own.more (W := W) ho2 (by simp)).trans (Nat.le_trans (by simp) hg2.size) ho3
  · obtain ⟨n, rfl⟩ : ∃ n : Nat, x = (n : Int) := ⟨x.toNat, by omega⟩
    have HI := hide (show Go.Lib.itoa (n : Int) = decDigits n by unfold Go.Lib.itoa; rw [if_neg (by omega)]; simp)
    have HD := hide (dec_any hr (u := n) (by omega) (by omega) hB)
    go_enter Ybaf.func8, Ybaf.ntmps8
    go_wp2_with fail
    refine HD.out.mono ?_
    rintro e w2 ⟨v2, rfl, hr2, hg2, ho2⟩
    go_wp2
    go_ret
    exact ⟨_, rfl, by rw [HI.out]; exact hr2, hg2, ho2⟩
end Go.Proofs.YbulkfhtoFmt.A
