/-
  (*items).Push, container/heap's up and Push, Heap.Push.
-/
import Derived.Test.YbulkfhtaBSwap
namespace Go.Proofs.Ybulkfhta.B
open Go.RowKit
attribute [local go_sem ↓] Go.wp_at_zero Go.wp_at_succ

theorem info51 : (Yba.prog.info? 51).map (fun i => (i.zero, i.size, i.bytes)) = some (some (.pointer none), 1, 8) := by kernel_rfl

theorem asserted (a : Addr) (W : World) : (Instr.typeAssert (.iface 51 (.pointer (some a))) 20 51 false).run Yba.prog W = .ok (.pointer (some a)) W := by kernel_rfl

/-- Of what lay there only the heap's header may have turned. -/
structure Fr (hb ho : Nat) (W W' : World) : Prop where
  bel : Below hb W W'
  cell : ∀ o, o ≠ ho → W'.cell? ⟨hb, o, none⟩ = W.cell? ⟨hb, o, none⟩
  fz : ∀ o, W'.frozen? ⟨hb, o, none⟩ = W.frozen? ⟨hb, o, none⟩

theorem Fr.trans {hb ho : Nat} {a b c : World} (h : Fr hb ho a b) (k : Fr hb ho b c) : Fr hb ho a c := ⟨h.bel.trans k.bel, fun o ho => (k.cell o ho).trans (h.cell o ho), fun o => (k.fz o).trans (h.fz o)⟩
theorem Fr.of_below {hb ho : Nat} {a b : World} (h : Below (hb + 1) a b) : Fr hb ho a b := ⟨h.mono (by omega), fun o _ => World.cell?_of_block (h.block hb (by omega)), fun o => World.frozen?_of_block (h.block hb (by omega))⟩
theorem Fr.refl (hb ho : Nat) (a : World) : Fr hb ho a a := ⟨Below.refl _ _, fun _ _ => rfl, fun _ => rfl⟩

set_option maxRecDepth 100000 in
set_option maxHeartbeats 4000000 in
theorem ipush_any {W : World} {hb ho k b : Nat} {hdr : Value} {p : Nat → Nat} {D : Nat → Int} (h : Hp W hb ho hdr k p D) (hs : Snd W b (D b)) (hu : hb < b) (hk : k ≤ 65536) :
    Calls Yba.prog 56 #[.pointer (some ⟨hb, ho, none⟩), .iface 51 (.pointer (some ⟨b, 0, none⟩))] W fun e w' => e = .returned (.tuple #[]) ∧ (∃ hdr', Hp w' hb ho hdr' (k + 1) (putN p k b) D) ∧ Fr hb ho W w' := by
  obtain ⟨ha, hcap, rfl⟩ := slice_form h.own
  have k1 : (k : Int) ≤ 65536 := by omega
  have k0 : (0 : Int) ≤ (k : Int) := by omega
  have c0 := h.hd
  have hm := mSetIndex
  have hta := asserted
  obtain ⟨nm, ag, ix, hs'⟩ := hs
  have c5 := hs'.cell (i := 5) rfl
  have f5 := hs'.frozen 5
  have lb := hs'.lt
  go_enter Yba.func56, Yba.ntmps56
  go_wp2_with fail
  refine (setIndex_any c5 f5).mono ?_
  rintro e w2 ⟨rfl, rfl⟩
  have hgs := grown_set W ⟨b, 5, none⟩ (.int .i64 (k : Int))
  have hs2 : Snd (W.setCell ⟨b, 5, none⟩ (.int .i64 (k : Int))) b (D b) := ⟨nm, ag, (k : Int), hs'.store 5 (.int .i64 (k : Int))⟩
  have h2 : Hp (W.setCell ⟨b, 5, none⟩ (.int .i64 (k : Int))) hb ho (.slice ha k hcap) k p D := by
    refine ⟨hgs.cell h.hd (by simp; omega), (World.frozen?_of_block (hgs.block hb (World.block_lt_of_cell? _ _ h.hd) (by simp; omega))).trans h.fz, h.own.kept hgs (.inr fun e => own_ne h.own hs' (by decide) e.symm), fun q hq => ?_, h.up⟩
    by_cases e : p q = b
    · rw [e]; exact hs2
    · exact (h.snd q hq).grown hgs (by simpa using e)
  have hB2 : Below (hb + 1) W (W.setCell ⟨b, 5, none⟩ (.int .i64 (k : Int))) := (Below.refl _ W).setCell (by simp; omega) _
  generalize (W.setCell ⟨b, 5, none⟩ (.int .i64 (k : Int))) = w2 at hs2 h2 hB2 ⊢
  clear c0 c5 f5 hs' lb hgs h
  have c0 := h2.hd
  have f0 := h2.fz
  have lhb : hb < w2.heap.size := World.block_lt_of_cell? _ _ h2.hd
  obtain ⟨i51, ji, jz0, jz1, jz2⟩ := info_parts info51
  have A2 : ∀ (o : Obj) (i : Nat), (w2.alloc o).cell? ⟨hb, i, none⟩ = w2.cell? ⟨hb, i, none⟩ := fun o i => World.cell?_alloc_old _ _ _ (by show hb ≠ _; omega)
  have A3 : ∀ (o : Obj) (i : Nat), (w2.alloc o).frozen? ⟨hb, i, none⟩ = w2.frozen? ⟨hb, i, none⟩ := fun o i => World.frozen?_alloc_old _ _ _ (by show hb ≠ _; omega)
  have HNE : some hb ≠ (Value.slice ha k hcap).ownBlock := fun e => by have := (h2.own.lt hb e.symm).1; omega
  go_wp2_with (at_builtin; refine wpList_append_lies _ rfl _ _ 44 rfl (hb + 1) 51 i51 _ 1 8 Yba.underlying44 ji jz0 jz1 jz2 rfl (by omega) _ k (rowP p k) rfl (by exact h2.own.alloc _) _ 1 1 [.pointer (some ⟨b, 0, none⟩)] rfl rfl (by exact World.news_of_block (heap_alloc_new _ _)) (by simp [Value.oneCell']) (by omega) (by simp only [maxLen]; omega) (by omega) (by simp only [World.size_alloc]; omega) _ rfl ?_; intro g cap w3 hown hgrow hat hlt3; have hs3 := hgrow.cell (a := ⟨hb, ho, none⟩) (v := .slice ha k hcap) (by rw [A2]; exact c0) HNE; have fs3 : w3.frozen? ⟨hb, ho, none⟩ = false := (World.frozen?_of_block (hgrow.block hb (by simp only [World.size_alloc]; omega) HNE)).trans ((A3 _ _).trans f0))
  go_end0
  have hgs := grown_set w3 ⟨hb, ho, none⟩ (.slice (some ⟨g, 0, none⟩) (k + 1) cap)
  have keep : ∀ c n, Snd w2 c n → hb < c → Snd (w3.setCell ⟨hb, ho, none⟩ (.slice (some ⟨g, 0, none⟩) (k + 1) cap)) c n := fun c n hc hlt => by
    obtain ⟨nm, ag, ix, hc⟩ := hc
    refine ⟨nm, ag, ix, (((hc.alloc _).kept hgrow (own_ne h2.own hc (by decide))).other (by simp; omega) _)⟩
  refine ⟨rfl, ⟨.slice (some ⟨g, 0, none⟩) (k + 1) cap, ⟨World.cell?_setCell_same _ _ _ hs3, by rw [World.frozen?_setCell]; exact fs3, ?_, fun q hq => ?_, fun q hq => ?_⟩⟩, ?_⟩
  · rw [rowP_succ, rowP_congr (p' := p) (fun q hq => by unfold putN; rw [if_neg (by omega)]), show putN p k b k = b by simp [putN]]
    refine World.ownsRow.kept (show w3.ownsRow _ _ _ _ _ _ from hown) hgs ?_
    right
    intro e
    have := (hown.lt hb e).1
    omega
  · unfold putN
    by_cases e : q = k
    · rw [if_pos e]; exact keep _ _ hs2 hu
    · rw [if_neg e]; exact keep _ _ (h2.snd q (by omega)) (h2.up q (by omega))
  · unfold putN
    by_cases e : q = k
    · rw [if_pos e]; exact hu
    · rw [if_neg e]; exact h2.up q (by omega)
  · have hBg : Below (hb + 1) W w3 := Below.grown (hB2.alloc (by omega) _) hgrow (by simp only [World.size_alloc]; omega) (fun k e => (h2.own.lt k e).1)
    have f1 := Fr.of_below (ho := ho) hBg
    exact ⟨f1.bel.setCell (Nat.le_refl _) _, fun o hoo => by rw [World.cell?_setCell_other _ _ _ _ (fun e => by cases e; exact hoo rfl)]; exact f1.cell o hoo, fun o => by rw [World.frozen?_setCell]; exact f1.fz o⟩

/-! ### the order of the heap -/
def Ord (k : Nat) (p : Nat → Nat) (D : Nat → Int) : Prop := ∀ i, 0 < i → i < k → D (p ((i - 1) / 2)) ≤ D (p i)
/-- .. but for the item at j. -/
def UpInv (k j : Nat) (p : Nat → Nat) (D : Nat → Int) : Prop :=
  (∀ i, 0 < i → i < k → i ≠ j → D (p ((i - 1) / 2)) ≤ D (p i)) ∧ (0 < j → ∀ c, 0 < c → c < k → (c - 1) / 2 = j → D (p ((j - 1) / 2)) ≤ D (p c))
def SameP (k : Nat) (p p' : Nat → Nat) : Prop := (∀ q, q < k → ∃ r, r < k ∧ p' q = p r) ∧ ∀ r, r < k → ∃ q, q < k ∧ p' q = p r

theorem SameP.refl (k : Nat) (p : Nat → Nat) : SameP k p p := ⟨fun q hq => ⟨q, hq, rfl⟩, fun q hq => ⟨q, hq, rfl⟩⟩
theorem SameP.swp {k : Nat} {p p' : Nat → Nat} (h : SameP k p p') {i j : Nat} (hi : i < k) (hj : j < k) : SameP k p (swpN p' i j) := by
  refine ⟨fun q hq => ?_, fun r hr => ?_⟩
  · obtain ⟨s, s1, s2⟩ := swpN_mem p' hi hj hq
    obtain ⟨r, r1, r2⟩ := h.1 s s1
    exact ⟨r, r1, s2.trans r2⟩
  · obtain ⟨q, q1, q2⟩ := h.2 r hr
    by_cases e1 : q = j
    · exact ⟨i, hi, by rw [swpN_left, ← e1]; exact q2⟩
    · by_cases e2 : q = i
      · exact ⟨j, hj, by rw [swpN_right, ← e2]; exact q2⟩
      · exact ⟨q, q1, by rw [swpN_other p' e2 e1]; exact q2⟩

theorem up_step {k j : Nat} {p : Nat → Nat} {D : Nat → Int} (h : UpInv k j p D) (hj : 0 < j) (hjk : j < k) (hl : D (p j) < D (p ((j - 1) / 2))) : UpInv k ((j - 1) / 2) (swpN p ((j - 1) / 2) j) D := by
  obtain ⟨h1, h2⟩ := h
  obtain ⟨i, ei⟩ : ∃ i, i = (j - 1) / 2 := ⟨_, rfl⟩
  rw [← ei] at hl ⊢
  have hij : i < j := by omega
  refine ⟨fun c c0 ck ci => ?_, fun i0 c c0 ck ec => ?_⟩
  · by_cases ecj : c = j
    · subst ecj
      rw [← ei, swpN_left, swpN_right]
      omega
    · rw [swpN_other p ci ecj]
      by_cases eq : (c - 1) / 2 = j
      · rw [eq, swpN_right]
        have := h2 hj c c0 ck eq
        rw [← ei] at this
        exact this
      · by_cases eq2 : (c - 1) / 2 = i
        · rw [eq2, swpN_left]
          have := h1 c c0 ck ecj
          rw [eq2] at this
          omega
        · rw [swpN_other p eq2 eq]
          exact h1 c c0 ck ecj
  · have hr : (i - 1) / 2 < i := by omega
    rw [swpN_other p (q := (i - 1) / 2) (by omega) (by omega)]
    have hb := h1 i i0 (by omega) (by omega)
    by_cases ecj : c = j
    · subst ecj; rw [swpN_right]; exact hb
    · rw [swpN_other p (q := c) (by omega) ecj]
      have := h1 c c0 ck ecj
      rw [ec] at this
      omega
theorem up_end {k j : Nat} {p : Nat → Nat} {D : Nat → Int} (h : UpInv k j p D) (hl : j = 0 ∨ ¬ D (p j) < D (p ((j - 1) / 2))) : Ord k p D := by
  intro i i0 ik
  by_cases e : i = j
  · subst e
    rcases hl with hl | hl
    · omega
    · omega
  · exact h.1 i i0 ik e

theorem below_size {W W' : World} (h : Below W.heap.size W W') : W.grownBy W' none := below_grown h (Nat.le_refl _)

set_option maxRecDepth 100000 in
set_option maxHeartbeats 4000000 in
theorem up_any {W : World} {hb ho k j : Nat} {hdr : Value} {p : Nat → Nat} {D : Nat → Int} (h : Hp W hb ho hdr k p D) (hj : j < k) (hk : k ≤ 70000) (hU : UpInv k j p D) :
    Calls Yba.prog 24 #[.iface 68 (.pointer (some ⟨hb, ho, none⟩)), .int .i64 (j : Int)] W fun e w' => e = .returned (.tuple #[]) ∧ ∃ p', Hp w' hb ho hdr k p' D ∧ Ord k p' D ∧ SameP k p p' ∧ Fr hb ho W w' := by
  go_enter Yba.func24, Yba.ntmps24
  go_wp2_with fail
  go_loopw [1] (fun x W' => ∃ (j : Nat) (p' : Nat → Nat), x = .int .i64 (j : Int) ∧ j < k ∧ Hp W' hb ho hdr k p' D ∧ UpInv k j p' D ∧ SameP k p p' ∧ Fr hb ho W W') (fun x _ => (intOf x).toNat)
  case atStart => exact ⟨j, p, rfl, hj, h, hU, SameP.refl _ _, Fr.refl _ _ _⟩
  case round =>
    clear h hU hj
    obtain ⟨j, p', rfl, hj, h, hU, hS, hF⟩ := hrel
    have HU := hide hU
    have HS := hide hS
    clear hU hS
    have j0 : (0 : Int) ≤ (j : Int) := by omega
    have j1 : (j : Int) ≤ 70000 := by omega
    by_cases hz : j = 0
    · subst hz
      go_wp2
      go_end0
      exact ⟨rfl, p', h, up_end HU.out (.inl rfl), HS.out, hF⟩
    · obtain ⟨r, rfl⟩ : ∃ r, j = r + 1 := ⟨j - 1, by omega⟩
      obtain ⟨i, ei⟩ : ∃ i, i = r / 2 := ⟨_, rfl⟩
      have ep : (r + 1 - 1) / 2 = i := by rw [ei, Nat.add_sub_cancel]
      have ei' : (r : Int) / 2 = (i : Int) := by omega
      have e1 : ((r + 1 : Nat) : Int) = (r : Int) + 1 := by omega
      have hik : i < k := by omega
      have HLs := hide (less_any h hj hik)
      rw [e1] at HLs ⊢
      have HEP := hide ep
      have HE1 := hide e1
      have i0 : (0 : Int) ≤ (i : Int) := by omega
      have i1 : (i : Int) ≤ 70000 := by omega
      have hne : ((i : Int) == (r : Int) + 1) = false := by simp; omega
      have hir : i < r + 1 := by omega
      clear ep e1 ei
      have hm := mLess h.hd
      go_upto_region 1 with (fail)
      clear ei'
      go_wp2_with fail
      refine HLs.out.mono ?_
      rintro e w2 ⟨rfl, hb2⟩
      have h2 := h.grown (below_size hb2)
      have hF2 := hF.trans (Fr.of_below (ho := ho) (hb2.mono (World.block_lt_of_cell? _ _ h.hd)))
      by_cases hl : D (p' (r + 1)) < D (p' i)
      · rw [show decide (D (p' (r + 1)) < D (p' i)) = true by simpa using hl]
        have HLt := hide hl
        have HSw := hide (swap_any h2 hik hj (by omega))
        rw [HE1.out] at HSw
        clear hl hm
        have hm := mSwap h2.hd
        go_wp2_with fail
        refine HSw.out.mono ?_
        rintro e w3 ⟨rfl, h3, hb3⟩
        go_wp2
        refine ⟨⟨i, _, rfl, hik, h3, ?_, HS.out.swp hik hj, hF2.trans (Fr.of_below hb3)⟩, by simp [intOf]; omega⟩
        have := up_step HU.out (by omega) hj (by rw [HEP.out]; exact HLt.out)
        rw [HEP.out] at this
        exact this
      · rw [show decide (D (p' (r + 1)) < D (p' i)) = false by simpa using hl]
        have HLt := hide hl
        clear hl
        go_wp2
        go_end0
        exact ⟨rfl, p', h2, up_end HU.out (.inr (by rw [HEP.out]; have := HLt.out; omega)), HS.out, hF2⟩

/-- The new item at the end. -/
theorem up_new {k : Nat} {p : Nat → Nat} {D : Nat → Int} (h : Ord k p D) (b : Nat) : UpInv (k + 1) k (putN p k b) D := by
  refine ⟨fun i i0 ik ie => ?_, fun k0 c c0 ck ec => by omega⟩
  unfold putN
  rw [if_neg ie, if_neg (by omega)]
  exact h i i0 (by omega)

theorem len_any {W : World} {a : Option Addr} {k cap : Nat} : Calls Yba.prog 49 #[.slice a k cap] W fun e w' => e = .returned (.int .i64 (k : Int)) ∧ w' = W := by
  go_enter Yba.func49, Yba.ntmps49
  go_wp2
  go_ret
  exact ⟨by simp, rfl⟩

set_option maxRecDepth 100000 in
set_option maxHeartbeats 4000000 in
theorem hpush_any {W : World} {hb ho k b : Nat} {hdr : Value} {p : Nat → Nat} {D : Nat → Int} (h : Hp W hb ho hdr k p D) (hO : Ord k p D) (hs : Snd W b (D b)) (hu : hb < b) (hk : k ≤ 65536) :
    Calls Yba.prog 13 #[.iface 68 (.pointer (some ⟨hb, ho, none⟩)), .iface 51 (.pointer (some ⟨b, 0, none⟩))] W fun e w' => e = .returned (.tuple #[]) ∧ ∃ hdr' p', Hp w' hb ho hdr' (k + 1) p' D ∧ Ord (k + 1) p' D ∧ SameP (k + 1) (putN p k b) p' ∧ Fr hb ho W w' := by
  have HO := hide hO
  clear hO
  have hm := mPush
  have k0 : (0 : Int) ≤ (k : Int) := by omega
  have k1 : (k : Int) ≤ 65536 := by omega
  go_enter Yba.func13, Yba.ntmps13
  go_wp2_with fail
  refine (ipush_any h hs hu hk).mono ?_
  rintro e w2 ⟨rfl, ⟨hdr', h2⟩, hF⟩
  clear hm
  have hm := mLen h2.hd
  obtain ⟨ha, hc, rfl⟩ := slice_form h2.own
  have HUp := hide (up_any h2 (j := k) (by omega) (by omega) (up_new HO.out b))
  go_wp2_with fail
  refine len_any.mono ?_
  rintro e w3 ⟨rfl, ew⟩
  obtain rfl := ew.symm
  have e1 : ((k + 1 : Nat) : Int) = (k : Int) + 1 := by omega
  rw [e1]
  clear e1
  go_wp2_with fail
  refine HUp.out.mono ?_
  rintro e w4 ⟨rfl, p', h4, hO4, hS4, hF4⟩
  have HO4 := hide hO4
  have HS4 := hide hS4
  clear hO4 hS4
  go_wp2
  go_end0
  exact ⟨rfl, _, p', h4, HO4.out, HS4.out, hF.trans hF4⟩

set_option maxRecDepth 100000 in
set_option maxHeartbeats 4000000 in
theorem push_any {W : World} {hb ho k b : Nat} {hdr : Value} {p : Nat → Nat} {D : Nat → Int} (h : Hp W hb ho hdr k p D) (hO : Ord k p D) (hs : Snd W b (D b)) (hu : hb < b) (hk : k ≤ 65536) :
    Calls Yba.prog 8 #[.pointer (some ⟨hb, ho, none⟩), .pointer (some ⟨b, 0, none⟩)] W fun e w' => e = .returned (.tuple #[]) ∧ ∃ hdr' p', Hp w' hb ho hdr' (k + 1) p' D ∧ Ord (k + 1) p' D ∧ SameP (k + 1) (putN p k b) p' ∧ Fr hb ho W w' := by
  have HC := hide (hpush_any h hO hs hu hk)
  clear hO
  go_enter Yba.func8, Yba.ntmps8
  go_wp2_with fail
  refine HC.out.mono ?_
  rintro e w4 ⟨rfl, hdr', p', h4, hO4, hS4, hF4⟩
  have HO4 := hide hO4
  have HS4 := hide hS4
  clear hO4 hS4
  go_wp2
  go_end0
  exact ⟨rfl, _, p', h4, HO4.out, HS4.out, hF4⟩
end Go.Proofs.Ybulkfhta.B
