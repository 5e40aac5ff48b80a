/-
  (keyIndex).number.
-/
import Derived.Test.YbulkfhsmCHolds
import Derived.Deep.AppendLies
namespace Go.Proofs.Ybulkfhsm.C
open Go.RowKit Go.Maps
attribute [local go_sem ↓] Go.wp_at_zero Go.wp_at_succ

/-- The index numbers the keys ks, in their order. -/
def St (W : World) (s : Nat) (ks : List Int) : Prop :=
  ∃ dh nd D mv cnt S kh, Ix W s dh nd D mv cnt S kh ks ∧ nd ≤ 4 * ks.length + 1024 ∧ cnt ≤ ks.length ∧ ks.Nodup ∧ (ks = [] → kh = .slice none 0 0) ∧ ∀ x, wf32 x → (x ∈ ks ↔ InD nd D x ∨ S x = true)

def adding (ks : List Int) (x : Int) : List Int := if x ∈ ks then ks else ks ++ [x]

/-- What number leaves. -/
def Numbered (w : World) (s : Nat) (ks : List Int) (x : Int) (e : Ending) (w' : World) : Prop := (∃ k : Int, e = .returned (.int .i32 k)) ∧ St w' s (adding ks x) ∧ Below s w w'

theorem inD_grown {nd nd' : Nat} {D : Nat → Int} (h : nd ≤ nd') (x : Int) : InD nd' (grown nd D) x ↔ InD nd D x := by
  unfold InD grown
  constructor
  · rintro ⟨h1, h2, h3⟩
    by_cases hx : x.toNat < nd
    · simp [hx] at h3; exact ⟨h1, hx, h3⟩
    · simp [hx] at h3
  · rintro ⟨h1, h2, h3⟩
    exact ⟨h1, by omega, by simpa [h2] using h3⟩

theorem nodup_snoc {ks : List Int} {x : Int} (h : ks.Nodup) (hx : x ∉ ks) : (ks ++ [x]).Nodup := by
  rw [List.nodup_append]
  exact ⟨h, by simp, fun a ha b hb e => hx (by rw [List.mem_singleton.1 hb] at e; exact e ▸ ha)⟩

/-- The number goes into the slice. -/
theorem num_dense {w : World} {s nd cnt y : Nat} {D : Nat → Int} {S : Int → Bool} {dh mv kh : Value} {ks : List Int} {k : Int} (h : Ix w s dh nd D mv cnt S kh (ks ++ [(y : Int)])) (hnd : nd ≤ 4 * (ks ++ [(y : Int)]).length + 1024) (hc : cnt ≤ ks.length) (hN : ks.Nodup) (hy : (y : Int) ∉ ks)
    (hS : ∀ x, wf32 x → (x ∈ ks ↔ InD nd D x ∨ S x = true)) (hlt : y < nd) (hk : 0 < k) {g cap : Nat} (hd : dh = .slice (some ⟨g, 0, none⟩) nd cap) :
    St (w.setCell ⟨g, y, none⟩ (.int .i32 k)) s (adding ks (y : Int)) ∧ Below s w (w.setCell ⟨g, y, none⟩ (.int .i32 k)) := by
  subst hd
  have hsg : s + 1 ≤ g := (h.dn.lt g rfl).1
  obtain ⟨r1, r2⟩ := h.dn.stored y (.int .i32 k)
  rw [rowL_set D k hlt] at r1
  have hs : some s ≠ some g := by simp; omega
  rw [adding, if_neg hy]
  have hh : ∃ cs t z, w.heap[g]? = some (.cells cs t z) ∧ t = 21 := by
    rcases h.dn.2 with ⟨h1, _⟩ | ⟨g', cap', cur, h1, _, hh, _⟩
    · cases h1
    · cases h1; exact ⟨_, _, _, hh, rfl⟩
  obtain ⟨cs, t, z, hh, ht⟩ := hh
  refine ⟨⟨_, nd, put D y k, mv, cnt, S, kh, ⟨r2.cell h.c0 hs, r2.cell h.c1 hs, r2.cell h.c2 hs, fun o => (World.frozen?_of_block (r2.block s h.lt hs)).trans (h.fz o), r1,
    row_kept h.kn r2 (fun b e => .inr (by cases e; exact ⟨cs, t, z, hh, by rw [ht]; decide⟩)), h.mp.kept r2 (fun b e => .inr (by cases e; exact ⟨cs, t, z, hh⟩))⟩, hnd, by simp; omega, nodup_snoc hN hy, by simp, fun x hx => ?_⟩, ?_⟩
  · simp only [List.mem_append, List.mem_singleton]
    by_cases e : x = (y : Int)
    · subst e
      have : InD nd (put D y k) (y : Int) := ⟨by omega, by simpa using hlt, by simpa [put_same] using hk⟩
      simp [this]
    · rw [hS x hx]
      have : InD nd (put D y k) x ↔ InD nd D x := by
        unfold InD
        constructor
        · rintro ⟨h1, h2, h3⟩; rw [put_other D k (by omega)] at h3; exact ⟨h1, h2, h3⟩
        · rintro ⟨h1, h2, h3⟩; exact ⟨h1, h2, by rw [put_other D k (by omega)]; exact h3⟩
      rw [this]
      simp [e]
  · exact (Below.refl s w).setCell (by simp; omega) _

/-- .. into the map. -/
theorem num_map {w w' : World} {s nd cnt b : Nat} {D : Nat → Int} {S : Int → Bool} {MD : DataW Unit} {dh kh : Value} {ks : List Int} {x k : Int} (h : Ix w s dh nd D (.map (some b)) cnt S kh (ks ++ [x])) (hnd : nd ≤ 4 * (ks ++ [x]).length + 1024) (hc : cnt ≤ ks.length) (hN : ks.Nodup) (hy : x ∉ ks) (hb : s + 1 ≤ b)
    (hw : wf32 x) (hS : ∀ x, wf32 x → (x ∈ ks ↔ InD nd D x ∨ S x = true)) (ho : w.ownsMap Yba.prog 25 (plainElem Yba.prog 21) b cnt MD) (hMS : ∀ x : Int, Maps.has MD (.int .i32 x) = S x)
    (ho' : w'.ownsMap Yba.prog 25 (plainElem Yba.prog 21) b (cnt + 1) (MD.put (.int .i32 x) (.lit (.int .i32 k)))) (hg : w.grownBy w' (some b)) :
    St w' s (adding ks x) ∧ Below s w w' := by
  rw [adding, if_neg hy]
  have hs : some s ≠ some b := by simp; omega
  have hm : ∀ c t z, w.heap[b]? ≠ some (.cells c t z) := by
    intro c t z e
    obtain ⟨es, clock, h2, _⟩ := ho
    rw [e] at h2; cases h2
  have rk : ∀ {e n v xs}, w.ownsRow (s + 1) e 1 v n xs → w'.ownsRow (s + 1) e 1 v n xs := by
    intro e n v xs hr
    refine hr.kept hg ?_
    rcases hr.2 with ⟨rfl, _⟩ | ⟨g, cap, cur, rfl, hl, hh, _⟩
    · exact .inl rfl
    · exact .inr (fun e' => by simp only [Value.ownBlock, Option.some.injEq] at e'; subst e'; exact hm _ _ _ hh)
  have hlt := h.lt
  refine ⟨⟨dh, nd, D, .map (some b), cnt + 1, fun z => if z = x then true else S z, kh, ⟨hg.cell h.c0 hs, hg.cell h.c1 hs, hg.cell h.c2 hs, fun o => (World.frozen?_of_block (hg.block s h.lt hs)).trans (h.fz o), rk h.dn, rk h.kn,
    .inr ⟨b, _, rfl, hb, ho', fun z => ?_⟩⟩, hnd, by simp; omega, nodup_snoc hN hy, by simp, fun z hz => ?_⟩, ?_⟩
  · by_cases e : z = x
    · subst e; simp only [if_true]; exact has_put_same ho.isMap (show WideAt.IsKeyLit (.int .i32 z) from trivial) _
    · simp only [if_neg e]; rw [has_put_other (by simpa using e)]; exact hMS z
  · simp only [List.mem_append, List.mem_singleton]
    by_cases e : z = x
    · subst e; simp
    · rw [hS z hz]; simp [e]
  · exact Below.grown (Below.refl s w) hg (by omega) (fun k e => by cases e; omega)

theorem lookup_any {w : World} {s nd cnt : Nat} {D : Nat → Int} {S : Int → Bool} {dh mv kh : Value} {ks : List Int} (h : Ix w s dh nd D mv cnt S kh ks) {x : Int} (hw : wf32 x) (hnd : nd ≤ 66560) (hS : ∀ x, wf32 x → (x ∈ ks ↔ InD nd D x ∨ S x = true)) :
    Calls Yba.prog 32 #[.pointer (some ⟨s, 0, none⟩), .int .i32 x] w fun e w' => (∃ k : Int, e = .returned (.tuple #[.int .i32 k, .bool (decide (x ∈ ks))])) ∧ w' = w := by
  by_cases hx : InD nd D x
  · rw [show decide (x ∈ ks) = true by simpa using (hS x hw).2 (.inl hx)]
    exact lookup_hit h hx hnd
  · rw [show decide (x ∈ ks) = S x by
      have := hS x hw
      simp only [hx, false_or] at this
      by_cases e : S x = true
      · rw [e]; simpa using this.2 e
      · simp only [this]; simp]
    exact lookup_miss (h.miss hx hnd) hw h.c1 h.mp

theorem made_map {w : World} {s nd : Nat} {D : Nat → Int} {S : Int → Bool} {cnt : Nat} {dh kh : Value} {ks : List Int} (h : Ix w s dh nd D (.map none) cnt S kh ks) (hS : ∀ x, S x = false) :
    Ix ((w.alloc (.map #[] 0)).setCell ⟨s, 1, none⟩ (.map (some w.heap.size))) s dh nd D (.map (some w.heap.size)) cnt S kh ks ∧ ((w.alloc (.map #[] 0)).setCell ⟨s, 1, none⟩ (.map (some w.heap.size))).ownsMap (H := Unit) Yba.prog 25 (plainElem Yba.prog 21) w.heap.size cnt (.map []) ∧ (∀ x : Int, Maps.has (H := Unit) (.map []) (.int .i32 x) = S x) ∧
      Below s w ((w.alloc (.map #[] 0)).setCell ⟨s, 1, none⟩ (.map (some w.heap.size))) := by
  have hlt := h.lt
  have ho : (w.alloc (.map #[] 0)).ownsMap (H := Unit) Yba.prog 25 (plainElem Yba.prog 21) w.heap.size cnt (.map []) := (World.ownsMap_made w _ _ _).mono (Nat.zero_le _)
  have hE : ∀ x : Int, Maps.has (H := Unit) (.map []) (.int .i32 x) = S x := fun x => by rw [hS]; simp [Maps.has]
  refine ⟨(h.ext (World.grownBy_alloc w _ none)).setMap (.inr ⟨w.heap.size, .map [], rfl, by omega, ho, hE⟩), ho.setCell (by simp; omega) _, hE, ?_⟩
  exact ((Below.refl s w).alloc (by omega) _).setCell (by simp) _

theorem plain_lit {n : Nat} (h : n ≤ 16384) : plainElem (H := Unit) Yba.prog 21 (.int .i32 (n : Int)) = some (.lit (.int .i32 (n : Int)), []) := plainElem_int Yba.underlying21 (by
  simp [Lit.wf, IntKind.min, IntKind.max, IntKind.signed, IntKind.bits]; omega)

theorem eq_some (b : Nat) (w : World) : (binOp .eql 85 (.map (some b)) (.map none)).run Yba.prog w = .ok (.bool false) w := by kernel_rfl
theorem eq_none (w : World) : (binOp .eql 85 (.map none) (.map none)).run Yba.prog w = .ok (.bool true) w := by kernel_rfl

set_option maxRecDepth 100000 in
set_option maxHeartbeats 4000000 in
theorem number_any {w : World} {s : Nat} {ks : List Int} (h : St w s ks) {x : Int} (hw : wf32 x) (hk : ks.length < 16384) :
    Calls Yba.prog 26 #[.pointer (some ⟨s, 0, none⟩), .int .i32 x] w (Numbered w s ks x) := by
  obtain ⟨dh, nd, D, mv, cnt, S, kh, hI, hnd, hc, hN, hE, hS⟩ := h
  have hLook := lookup_any hI hw (by omega) hS
  by_cases hx : x ∈ ks
  · rw [show decide (x ∈ ks) = true by simpa using hx] at hLook
    have HL := hide hLook
    clear hLook
    have hfin : ∀ k : Int, Numbered w s ks x (.returned (.int .i32 k)) w := fun k => ⟨⟨k, rfl⟩, by rw [adding, if_pos hx]; exact ⟨dh, nd, D, mv, cnt, S, kh, hI, hnd, hc, hN, hE, hS⟩, Below.refl _ _⟩
    have HF := hide hfin
    clear hfin
    go_enter Yba.func26, Yba.ntmps26
    go_wp2_with fail
    refine HL.out.mono ?_
    rintro e w' ⟨⟨k, rfl⟩, rfl⟩
    go_wp2
    go_ret
    exact HF.out k
  · rw [show decide (x ∈ ks) = false by simpa using hx] at hLook
    have HL := hide hLook
    have HX := hide hx
    have HS := hide hS
    have HN := hide hN
    clear hLook hx hS hN hE
    have k1 : (ks.length : Int) < 16384 := by omega
    have k2 : (0 : Int) ≤ (ks.length : Int) := by omega
    have hlt := hI.lt
    obtain ⟨ka, kcap, rfl⟩ := slice_form hI.kn
    have c2 := hI.c2
    have fz := hI.fz
    obtain ⟨i, hi, hz0, hz1, hz2⟩ := info_parts info25
    go_enter Yba.func26, Yba.ntmps26
    go_wp2_with fail
    refine HL.out.mono ?_
    rintro e w' ⟨⟨k, rfl⟩, ew⟩
    obtain rfl := ew.symm
    clear HL
    go_upto_region 5 with (fail)
    go_cut [] from 22 to 60 (fun W => ∃ kh', Ix W s dh nd D mv cnt S kh' (ks ++ [x]) ∧ Below s w W)
    case first =>
      have hne : some s ≠ (Value.slice ka ks.length kcap).ownBlock := fun e => by have := (hI.kn.lt s e.symm).1; omega
      have bs : s ≠ w.heap.size := by omega
      have A2 : ∀ (o : Obj) (i : Nat), (w.alloc o).cell? ⟨s, i, none⟩ = w.cell? ⟨s, i, none⟩ := fun o i => World.cell?_alloc_old _ _ _ bs
      have A3 : ∀ (o : Obj) (i : Nat), (w.alloc o).frozen? ⟨s, i, none⟩ = false := fun o i => by rw [World.frozen?_alloc_old _ _ _ bs]; exact fz i
      go_wp2_with (at_builtin; refine wpList_append_lies _ rfl _ _ 24 rfl (s + 1) 25 i _ 1 4 Yba.underlying24 hi hz0 hz1 hz2 rfl (by omega) _ ks.length (ks.map (Value.int .i32)) rfl (by exact hI.kn.alloc _) _ 1 1 [.int .i32 x] rfl rfl (by exact World.news_of_block (heap_alloc_new _ _)) (by simp [Value.oneCell']) (by omega) (by simp only [maxLen]; omega) (by omega) (by simp only [World.size_alloc]; omega) _ rfl ?_; intro g cap w3 hown hgrow hat hlt3; have hs3 := hgrow.cell (a := ⟨s, 2, none⟩) (v := .slice ka ks.length kcap) (by rw [A2]; exact c2) hne; have fs3 : ∀ o, w3.frozen? ⟨s, o, none⟩ = false := fun o => (World.frozen?_of_block (hgrow.block s (by simp only [World.size_alloc]; omega) hne)).trans (A3 _ o))
      go_meet
      case rel =>
        refine ⟨_, (hI.ext (World.grownBy_alloc w _ none)).setKeys hgrow (by simpa using hown), ?_⟩
        refine Below.setCell (Below.grown ((Below.refl s w).alloc (by omega) _) hgrow (by simp only [World.size_alloc]; omega) (fun k e => ?_)) (by simp) _
        have := (hI.kn.lt k e).1
        omega
    case rest =>
    obtain ⟨kh', hI2, hB2⟩ := hcut
    go_wp2_with fail
    refine (holds_any hI2 hw (by simp; omega) (by simp; omega)).mono ?_
    rintro e w3 ⟨t, rfl, dh', nd', hI3, n1, n2, ht, hB3⟩
    have hB := hB2.trans hB3
    clear hB2 hB3 hI2 hI c2 fz
    have HT := hide ht
    clear ht
    have HS3 : Hid (∀ x, wf32 x → (x ∈ ks ↔ InD nd' (grown nd D) x ∨ S x = true)) := hide (fun x hx => by rw [inD_grown n1]; exact HS.out x hx)
    cases t
    · have c1 := hI3.c1
      have fz := hI3.fz
      have hlt3 := hI3.lt
      clear HT
      have hmm := @run_makeMap Yba.prog
      have e1 := eq_none
      have e2 := eq_some
      have hmp := hI3.mp
      rcases hmp with ⟨rfl, hE⟩ | ⟨b, MD, rfl, hb, ho, hMS⟩
      · have HE := hide hE
        clear hE
        have bs : s ≠ w3.heap.size := by omega
        have A2 : ∀ (o : Obj) (i : Nat), (w3.alloc o).cell? ⟨s, i, none⟩ = w3.cell? ⟨s, i, none⟩ := fun o i => World.cell?_alloc_old _ _ _ bs
        have A3 : ∀ (o : Obj) (i : Nat), (w3.alloc o).frozen? ⟨s, i, none⟩ = false := fun o i => by rw [World.frozen?_alloc_old _ _ _ bs]; exact fz i
        go_upto_region 11 with (fail)
        obtain ⟨r1, r2, r3, r4⟩ := made_map hI3 HE.out
        rw [World.setCell_alloc_past _ _ _ _ hlt3] at r1 r2 r4
        generalize (w3.setCell ⟨s, 1, none⟩ (.map (some w3.heap.size))).alloc (.map #[] 0) = w4 at r1 r2 r4 ⊢
        generalize w3.heap.size = b at r1 r2 hlt3 ⊢
        have HM := hide r3
        have hB4 := hB.trans r4
        clear A2 A3 hmm e1 e2 c1 fz r3 r4 hB bs
        have c1 := r1.c1
        go_wp2_with (at_mapUpdate; refine wpList_mapUpdate_own _ rfl _ _ _ 85 rfl 25 21 keyed Yba.underlying85 _ b cnt (.map []) rfl r2 (by simp only [maxLen]; omega) _ _ (.int .i32 x) rfl rfl (key_lit hw) (.lit (.int .i32 (ks.length : Int))) [] (plain_lit (by omega)) ?_; intro w5 ho5 hg5)
        go_ret
        obtain ⟨q1, q2⟩ := num_map r1 n2 hc HN.out HX.out (by omega) hw HS3.out r2 HM.out ho5 hg5
        exact ⟨⟨_, rfl⟩, q1, hB4.trans q2⟩
      · have HM := hide hMS
        clear hMS
        go_wp2_with (at_mapUpdate; refine wpList_mapUpdate_own _ rfl _ _ _ 85 rfl 25 21 keyed Yba.underlying85 _ b cnt MD rfl ho (by simp only [maxLen]; omega) _ _ (.int .i32 x) rfl rfl (key_lit hw) (.lit (.int .i32 (ks.length : Int))) [] (plain_lit (by omega)) ?_; intro w5 ho5 hg5)
        go_ret
        obtain ⟨r1, r2⟩ := num_map hI3 n2 hc HN.out HX.out hb hw HS3.out ho HM.out ho5 hg5
        exact ⟨⟨_, rfl⟩, r1, hB.trans r2⟩
    · obtain ⟨y0, y1⟩ := HT.out rfl
      obtain ⟨y, rfl⟩ : ∃ y : Nat, x = (y : Int) := ⟨x.toNat, by omega⟩
      simp only [Int.toNat_natCast] at y1
      obtain ⟨g, cap, rfl, hg⟩ := row_form hI3.dn (by omega)
      have c0 := hI3.c0
      have cy : w3.cell? ⟨g, y, none⟩ = some (.int .i32 (grown nd D y)) := by rw [World.ownsRow.cellAt hI3.dn y (by omega), rowL_get _ y1]
      have fy := hI3.dn.frozenAt (g := g) y
      have y2 : (y : Int) < (nd' : Int) := by omega
      have y3 : (0 : Int) ≤ (y : Int) := by omega
      clear HT
      go_wp2
      go_ret
      obtain ⟨r1, r2⟩ := num_dense hI3 n2 hc HN.out HX.out HS3.out y1 (k := (ks.length : Int) + 1) (by omega) rfl
      exact ⟨⟨_, rfl⟩, r1, hB.trans r2⟩
end Go.Proofs.Ybulkfhsm.C
