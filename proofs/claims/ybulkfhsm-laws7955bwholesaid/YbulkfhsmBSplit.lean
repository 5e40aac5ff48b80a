/-
  The functions split and merge of the pool's trees.
-/
import Derived.Test.YbulkfhsmBTree
namespace Go.Proofs.Ybulkfhsm.B
open Go.RowKit
attribute [local go_sem ↓] Go.wp_at_zero Go.wp_at_succ

theorem hide {p : Prop} (h : p) : Hid p := h

theorem update_any {w : World} {base s B n cap : Nat} {ns : Nat → Nd} (hP : Pool w base s (.slice (some ⟨B, 0, none⟩) n cap) n ns) (i : Nat) (hi : i < n) (hG : G n ns)
    (hL : Ref n (ns i).left) (hR : Ref n (ns i).right) (nL : (ns i).left ≠ i) (nR : (ns i).right ≠ i) :
    Calls Yba.prog 25 #[.pointer (some ⟨s, 0, none⟩), .int .i32 (i : Int)] w fun e w' => e = .returned (.tuple #[]) ∧
      ∃ (a : Nat) (b : Int), a < n ∧ Ref n b ∧ Pool w' base s (.slice (some ⟨B, 0, none⟩) n cap) n (upd ns i (upNd (ns i) a b (fexF ns (own0 (ns i).excl i) (ns i).left (ns i).right))) ∧ w.grownBy w' (some B) :=
  update_core hP i hi _ _ _ _ rfl rfl rfl hL hR nL nR (fun j hj => (hG j hj).1) (fun j hj => (hG j hj).2) rfl

theorem T.not_root {n : Nat} {ns : Nat → Nd} {f : Nat} {t : Int} {l : List Nat} (h : T n ns f t l) {i : Nat} (hi : i ∉ l) : t ≠ (i : Int) := by
  intro e; subst e; exact hi h.root_mem

set_option maxRecDepth 100000 in
set_option maxHeartbeats 2000000 in
theorem split_any {base s n : Nat} {hdr : Value} (p : Int) (f : Nat) : ∀ (w : World) (ns : Nat → Nd) (t : Int) (l : List Nat), Pool w base s hdr n ns → G n ns → T n ns f t l → l.Nodup → Sorted ns l →
    Calls Yba.prog 23 #[.pointer (some ⟨s, 0, none⟩), .int .i32 t, .int .i64 p] w fun e w' => ∃ (ns' : Nat → Nd) (x y : Int),
      e = .returned (.tuple #[.int .i32 x, .int .i32 y]) ∧ Pool w' base s hdr n ns' ∧ w.grownBy w' hdr.ownBlock ∧ G n ns' ∧ Chg l ns ns' ∧ T n ns' f x (low ns p l) ∧ T n ns' f y (high ns p l) := by
  have leaf : ∀ (f : Nat) (w : World) (ns : Nat → Nd), Pool w base s hdr n ns → G n ns →
    Calls Yba.prog 23 #[.pointer (some ⟨s, 0, none⟩), .int .i32 (-1), .int .i64 p] w fun e w' => ∃ (ns' : Nat → Nd) (x y : Int),
      e = .returned (.tuple #[.int .i32 x, .int .i32 y]) ∧ Pool w' base s hdr n ns' ∧ w.grownBy w' hdr.ownBlock ∧ G n ns' ∧ Chg [] ns ns' ∧ T n ns' f x (low ns p []) ∧ T n ns' f y (high ns p []) := by
    intro f w ns hP hG
    go_enter Yba.func23, Yba.ntmps23
    go_wp2
    go_ret2
    exact ⟨ns, -1, -1, rfl, hP, World.grownBy.refl _ _, hG, Chg.refl _ _, T.nil _ _ _, T.nil _ _ _⟩
  induction f with
  | zero =>
    intro w ns t l hP hG hT _ _
    obtain ⟨rfl, rfl⟩ := hT
    exact leaf 0 w ns hP hG
  | succ f ih =>
    intro w ns t l hP hG hT hN hS
    rcases hT with ⟨rfl, rfl⟩ | ⟨i, l1, l2, rfl, hi, rfl, h1, h2, h3⟩
    · exact leaf (f + 1) w ns hP hG
    · obtain ⟨B, cap, rfl, hb, hBs, hc, hm⟩ := hP.form (by omega)
      have IH := hide ih
      have LEAF := hide leaf
      clear ih leaf
      obtain ⟨m1, m2, n1, n2, n3⟩ := nodup_node hN
      obtain ⟨s1, s2, o1, o2⟩ := sorted_split hS
      have hne : ((i : Int) == -1) = false := by simp
      have g1 : (0 : Int) ≤ (i : Int) := by omega
      have g2 : (i : Int) < (n : Int) := by omega
      have h0 := hP.hd
      have c0 : w.cell? ⟨B, i * 10, none⟩ = some (.int .i64 (ns i).place) := hP.cell hi (k := 0) (by omega)
      have c5 : w.cell? ⟨B, i * 10 + 5, none⟩ = some (.int .i32 (ns i).left) := hP.cell hi (k := 5) (by omega)
      have c6 : w.cell? ⟨B, i * 10 + 6, none⟩ = some (.int .i32 (ns i).right) := hP.cell hi (k := 6) (by omega)
      have H3 := hide h3
      have HN := hide hN
      have HS := hide hS
      clear h3 hN hS o1 o2 n3
      by_cases hp : (ns i).place < p
      · go_enter Yba.func23, Yba.ntmps23
        go_wp2_with fail
        refine (IH.out w ns _ l2 hP hG h2 m2 s2).mono ?_
        rintro e w1 ⟨ns1, x, y, rfl, hP1, hg1, hG1, hC1, hx, hy⟩
        have h0' := hP1.hd
        have d6 : w1.cell? ⟨B, i * 10 + 6, none⟩ = some (.int .i32 (ns1 i).right) := hP1.cell hi (k := 6) (by omega)
        have f1 := hP1.frozen
        go_wp2_with fail
        obtain ⟨hP2, hg2⟩ := hP1.store hi (k := 6) (by omega) (.int .i32 x) { ns1 i with right := x } rfl
        obtain ⟨ns2, e2⟩ : ∃ q, q = upd ns1 i { ns1 i with right := x } := ⟨_, rfl⟩
        rw [← e2] at hP2
        have E2 := hide e2
        clear e2 d6 h0' f1 hP1
        have q2 : ns2 i = { ns1 i with right := x } := by rw [E2.out, upd_same]
        have hii : ns1 i = ns i := hC1.keep i n2
        have Q := hide q2
        have II := hide hii
        clear q2 hii
        have G2 : G n ns2 := by rw [E2.out]; exact hG1.upd (hG1 i hi).1 (hG1 i hi).2
        refine (update_any hP2 i hi G2 (by rw [Q.out]; show Ref n (ns1 i).left; rw [II.out]; exact h1.ref) (by rw [Q.out]; exact hx.ref)
          (by rw [Q.out]; show (ns1 i).left ≠ i; rw [II.out]; exact h1.not_root n1) (by rw [Q.out]; exact hx.not_root fun e => n2 (List.mem_filter.1 e).1)).mono ?_
        rintro e w3 ⟨rfl, a, b, ha, hb, hP3, hg3⟩
        go_wp2
        go_ret2
        obtain ⟨r1, r2, r3, r4⟩ := split_lt hi h1 HN.out HS.out hp hG1 hC1 hx hy ha hb ns2 _ E2.out rfl
        exact ⟨_, _, _, rfl, hP3, grown_trans hg1 (grown_trans hg2 hg3), r1, r2, r3, r4⟩
      · go_enter Yba.func23, Yba.ntmps23
        go_wp2_with fail
        refine (IH.out w ns _ l1 hP hG h1 m1 s1).mono ?_
        rintro e w1 ⟨ns1, x, y, rfl, hP1, hg1, hG1, hC1, hx, hy⟩
        have h0' := hP1.hd
        have d5 : w1.cell? ⟨B, i * 10 + 5, none⟩ = some (.int .i32 (ns1 i).left) := hP1.cell hi (k := 5) (by omega)
        have f1 := hP1.frozen
        go_wp2_with fail
        obtain ⟨hP2, hg2⟩ := hP1.store hi (k := 5) (by omega) (.int .i32 y) { ns1 i with left := y } rfl
        obtain ⟨ns2, e2⟩ : ∃ q, q = upd ns1 i { ns1 i with left := y } := ⟨_, rfl⟩
        rw [← e2] at hP2
        have E2 := hide e2
        clear e2 d5 h0' f1 hP1
        have q2 : ns2 i = { ns1 i with left := y } := by rw [E2.out, upd_same]
        have hii : ns1 i = ns i := hC1.keep i n1
        have Q := hide q2
        have II := hide hii
        clear q2 hii
        have G2 : G n ns2 := by rw [E2.out]; exact hG1.upd (hG1 i hi).1 (hG1 i hi).2
        refine (update_any hP2 i hi G2 (by rw [Q.out]; exact hy.ref) (by rw [Q.out]; show Ref n (ns1 i).right; rw [II.out]; exact h2.ref)
          (by rw [Q.out]; exact hy.not_root fun e => n1 (List.mem_filter.1 e).1) (by rw [Q.out]; show (ns1 i).right ≠ i; rw [II.out]; exact h2.not_root n2)).mono ?_
        rintro e w3 ⟨rfl, a, b, ha, hb, hP3, hg3⟩
        go_wp2
        go_ret2
        obtain ⟨r1, r2, r3, r4⟩ := split_ge hi h2 HN.out HS.out (by omega) hG1 hC1 hx hy ha hb ns2 _ E2.out rfl
        exact ⟨_, _, _, rfl, hP3, grown_trans hg1 (grown_trans hg2 hg3), r1, r2, r3, r4⟩
end Go.Proofs.Ybulkfhsm.B
