/-
  The function merge: two trees joined.
-/
import Derived.Test.YbulkfhsmBSplit
namespace Go.Proofs.Ybulkfhsm.B
open Go.RowKit
attribute [local go_sem ↓] Go.wp_at_zero Go.wp_at_succ

/-- What merge leaves. -/
def Merged (base s : Nat) (hdr : Value) (n : Nat) (w : World) (ns : Nat → Nd) (f : Nat) (l : List Nat) (e : Ending) (w' : World) : Prop :=
  ∃ (ns' : Nat → Nd) (r : Int), e = .returned (.int .i32 r) ∧ Pool w' base s hdr n ns' ∧ w.grownBy w' hdr.ownBlock ∧ G n ns' ∧ Chg l ns ns' ∧ T n ns' f r l

theorem merge_left_none {base s n : Nat} {hdr : Value} {w : World} {ns : Nat → Nd} {g : Nat} {b : Int} {l2 : List Nat} (hP : Pool w base s hdr n ns) (hG : G n ns) (hb : T n ns g b l2) (f : Nat) :
    Calls Yba.prog 24 #[.pointer (some ⟨s, 0, none⟩), .int .i32 (-1), .int .i32 b] w (Merged base s hdr n w ns (f + g) ([] ++ l2)) := by
  go_enter Yba.func24, Yba.ntmps24
  go_wp2
  go_ret
  exact ⟨ns, b, rfl, hP, World.grownBy.refl _ _, hG, Chg.refl _ _, hb.mono (by omega)⟩

theorem merge_right_none {base s n : Nat} {hdr : Value} {w : World} {ns : Nat → Nd} {f : Nat} {a : Nat} {l1 : List Nat} (hP : Pool w base s hdr n ns) (hG : G n ns) (ha : T n ns f (a : Int) l1) (g : Nat) :
    Calls Yba.prog 24 #[.pointer (some ⟨s, 0, none⟩), .int .i32 (a : Int), .int .i32 (-1)] w (Merged base s hdr n w ns (f + g) (l1 ++ [])) := by
  have hne : ((a : Int) == -1) = false := by simp
  go_enter Yba.func24, Yba.ntmps24
  go_wp2
  go_ret
  exact ⟨ns, a, rfl, hP, World.grownBy.refl _ _, hG, Chg.refl _ _, by rw [List.append_nil]; exact ha.mono (by omega)⟩

set_option maxRecDepth 100000 in
set_option maxHeartbeats 4000000 in
/-- Both roots are there, the left one's priority is greater. -/
theorem merge_top_left {base s n B cap : Nat} {w : World} {ns : Nat → Nd} {f g : Nat} {a b : Nat} {l1 l2 m : List Nat} (hP : Pool w base s (.slice (some ⟨B, 0, none⟩) n cap) n ns)
    (ha : a < n) (hb : b < n) (hp : (ns b).prio < (ns a).prio) (h1 : T n ns f (ns a).left l1) (hN : ((l1 ++ a :: l2) ++ m).Nodup)
    (IH : Hid (∀ w, Pool w base s (.slice (some ⟨B, 0, none⟩) n cap) n ns → Calls Yba.prog 24 #[.pointer (some ⟨s, 0, none⟩), .int .i32 (ns a).right, .int .i32 (b : Int)] w (Merged base s (.slice (some ⟨B, 0, none⟩) n cap) n w ns (f + g) (l2 ++ m)))) :
    Calls Yba.prog 24 #[.pointer (some ⟨s, 0, none⟩), .int .i32 (a : Int), .int .i32 (b : Int)] w (Merged base s (.slice (some ⟨B, 0, none⟩) n cap) n w ns (f + 1 + g) ((l1 ++ a :: l2) ++ m)) := by
  have HN := hide hN
  clear hN
  have hne : ((a : Int) == -1) = false := by simp
  have hne' : ((b : Int) == -1) = false := by simp
  have g1 : (0 : Int) ≤ (a : Int) := by omega
  have g2 : (a : Int) < (n : Int) := by omega
  have g3 : (0 : Int) ≤ (b : Int) := by omega
  have g4 : (b : Int) < (n : Int) := by omega
  have h0 := hP.hd
  have c4 : w.cell? ⟨B, a * 10 + 4, none⟩ = some (.int .u32 (ns a).prio) := hP.cell ha (k := 4) (by omega)
  have d4 : w.cell? ⟨B, b * 10 + 4, none⟩ = some (.int .u32 (ns b).prio) := hP.cell hb (k := 4) (by omega)
  have c6 : w.cell? ⟨B, a * 10 + 6, none⟩ = some (.int .i32 (ns a).right) := hP.cell ha (k := 6) (by omega)
  go_enter Yba.func24, Yba.ntmps24
  go_wp2_with fail
  go_quiet (fail)
  go_wp2_with fail
  clear c4 d4 hp
  go_cut [] from 7 to 76 (fun W => ∃ (ns1 : Nat → Nd) (r : Int), Pool W base s (.slice (some ⟨B, 0, none⟩) n cap) n (upd ns1 a { ns1 a with right := r }) ∧ w.grownBy W (some B) ∧ G n ns1 ∧ Chg (l2 ++ m) ns ns1 ∧ T n ns1 (f + g) r (l2 ++ m))
  case first =>
    go_region_with (go_at_call 24; refine (IH.out _ ?_).mono ?_; exact (hP.drewN _).drew; rintro e w1 ⟨ns1, r, rfl, hP1, hg1, hG1, hC1, hr⟩; have h0' := hP1.hd; have d6 : w1.cell? ⟨B, a * 10 + 6, none⟩ = some (.int .i32 (ns1 a).right) := hP1.cell ha (k := 6) (by omega); have f1 := hP1.frozen)
    all_goals
      go_wp2
      go_meet
      case rel =>
        obtain ⟨hP2, hg2⟩ := hP1.store ha (k := 6) (by omega) (.int .i32 r) { ns1 a with right := r } rfl
        exact ⟨ns1, r, hP2, grown_trans (grown_trans (grown_drewN (World.grownBy.refl _ _) _) hg1) hg2, hG1, hC1, hr⟩
  case rest =>
    clear c6 h0
    obtain ⟨ns1, r, hP2, hg2, hG1, hC1, hr⟩ := hcut
    obtain ⟨ns2, e2⟩ : ∃ q, q = upd ns1 a { ns1 a with right := r } := ⟨_, rfl⟩
    rw [← e2] at hP2
    have E2 := hide e2
    clear e2
    have q2 : ns2 a = { ns1 a with right := r } := by rw [E2.out, upd_same]
    have hN' : (l1 ++ a :: (l2 ++ m)).Nodup := by simpa using HN.out
    obtain ⟨_, _, n1, n2, n3⟩ := nodup_node hN'
    have hii : ns1 a = ns a := hC1.keep a n2
    have Q := hide q2
    have II := hide hii
    clear q2 hii hN' n3
    have G2 : G n ns2 := by rw [E2.out]; exact hG1.upd (hG1 a ha).1 (hG1 a ha).2
    go_wp2_with fail
    refine (update_any hP2 a ha G2 (by rw [Q.out]; show Ref n (ns1 a).left; rw [II.out]; exact h1.ref) (by rw [Q.out]; exact hr.ref)
      (by rw [Q.out]; show (ns1 a).left ≠ a; rw [II.out]; exact h1.not_root n1) (by rw [Q.out]; exact hr.not_root n2)).mono ?_
    rintro e w3 ⟨rfl, a', b', ha', hb', hP3, hg3⟩
    go_wp2
    go_ret
    obtain ⟨r1, r2, r3⟩ := merge_left ha h1 HN.out hG1 hC1 hr ha' hb' ns2 _ E2.out rfl
    exact ⟨_, _, rfl, hP3, grown_trans hg2 hg3, r1, r2, r3⟩

set_option maxRecDepth 100000 in
set_option maxHeartbeats 4000000 in
/-- Both roots are there, the left one's priority is not greater. -/
theorem merge_top_right {base s n B cap : Nat} {w : World} {ns : Nat → Nd} {f g : Nat} {a b : Nat} {l1 l2 m : List Nat} (hP : Pool w base s (.slice (some ⟨B, 0, none⟩) n cap) n ns)
    (ha : a < n) (hb : b < n) (hp : ¬ (ns b).prio < (ns a).prio) (h2 : T n ns g (ns b).right l2) (hN : (m ++ (l1 ++ b :: l2)).Nodup)
    (IH : Hid (∀ w, Pool w base s (.slice (some ⟨B, 0, none⟩) n cap) n ns → Calls Yba.prog 24 #[.pointer (some ⟨s, 0, none⟩), .int .i32 (a : Int), .int .i32 (ns b).left] w (Merged base s (.slice (some ⟨B, 0, none⟩) n cap) n w ns (f + g) (m ++ l1)))) :
    Calls Yba.prog 24 #[.pointer (some ⟨s, 0, none⟩), .int .i32 (a : Int), .int .i32 (b : Int)] w (Merged base s (.slice (some ⟨B, 0, none⟩) n cap) n w ns (f + (g + 1)) (m ++ (l1 ++ b :: l2))) := by
  have HN := hide hN
  clear hN
  have hne : ((a : Int) == -1) = false := by simp
  have hne' : ((b : Int) == -1) = false := by simp
  have g1 : (0 : Int) ≤ (a : Int) := by omega
  have g2 : (a : Int) < (n : Int) := by omega
  have g3 : (0 : Int) ≤ (b : Int) := by omega
  have g4 : (b : Int) < (n : Int) := by omega
  have h0 := hP.hd
  have c4 : w.cell? ⟨B, a * 10 + 4, none⟩ = some (.int .u32 (ns a).prio) := hP.cell ha (k := 4) (by omega)
  have d4 : w.cell? ⟨B, b * 10 + 4, none⟩ = some (.int .u32 (ns b).prio) := hP.cell hb (k := 4) (by omega)
  have c5 : w.cell? ⟨B, b * 10 + 5, none⟩ = some (.int .i32 (ns b).left) := hP.cell hb (k := 5) (by omega)
  go_enter Yba.func24, Yba.ntmps24
  go_wp2_with fail
  go_quiet (fail)
  go_wp2_with fail
  clear c4 d4 hp
  go_cut [] from 7 to 76 (fun W => ∃ (ns1 : Nat → Nd) (r : Int), Pool W base s (.slice (some ⟨B, 0, none⟩) n cap) n (upd ns1 b { ns1 b with left := r }) ∧ w.grownBy W (some B) ∧ G n ns1 ∧ Chg (m ++ l1) ns ns1 ∧ T n ns1 (f + g) r (m ++ l1))
  case first =>
    go_region_with (go_at_call 24; refine (IH.out _ ?_).mono ?_; exact (hP.drewN _).drew; rintro e w1 ⟨ns1, r, rfl, hP1, hg1, hG1, hC1, hr⟩; have h0' := hP1.hd; have d5 : w1.cell? ⟨B, b * 10 + 5, none⟩ = some (.int .i32 (ns1 b).left) := hP1.cell hb (k := 5) (by omega); have f1 := hP1.frozen)
    all_goals
      go_wp2
      go_meet
      case rel =>
        obtain ⟨hP2, hg2⟩ := hP1.store hb (k := 5) (by omega) (.int .i32 r) { ns1 b with left := r } rfl
        exact ⟨ns1, r, hP2, grown_trans (grown_trans (grown_drewN (World.grownBy.refl _ _) _) hg1) hg2, hG1, hC1, hr⟩
  case rest =>
    clear c5 h0
    obtain ⟨ns1, r, hP2, hg2, hG1, hC1, hr⟩ := hcut
    obtain ⟨ns2, e2⟩ : ∃ q, q = upd ns1 b { ns1 b with left := r } := ⟨_, rfl⟩
    rw [← e2] at hP2
    have E2 := hide e2
    clear e2
    have q2 : ns2 b = { ns1 b with left := r } := by rw [E2.out, upd_same]
    have hN' : ((m ++ l1) ++ b :: l2).Nodup := by simpa using HN.out
    obtain ⟨_, _, n1, n2, n3⟩ := nodup_node hN'
    have hii : ns1 b = ns b := hC1.keep b n1
    have Q := hide q2
    have II := hide hii
    clear q2 hii hN' n3
    have G2 : G n ns2 := by rw [E2.out]; exact hG1.upd (hG1 b hb).1 (hG1 b hb).2
    go_wp2_with fail
    refine (update_any hP2 b hb G2 (by rw [Q.out]; exact hr.ref) (by rw [Q.out]; show Ref n (ns1 b).right; rw [II.out]; exact h2.ref)
      (by rw [Q.out]; exact hr.not_root n1) (by rw [Q.out]; show (ns1 b).right ≠ b; rw [II.out]; exact h2.not_root n2)).mono ?_
    rintro e w3 ⟨rfl, a', b', ha', hb', hP3, hg3⟩
    go_wp2
    go_ret
    obtain ⟨r1, r2, r3⟩ := merge_right hb h2 HN.out hG1 hC1 hr ha' hb' ns2 _ E2.out rfl
    exact ⟨_, _, rfl, hP3, grown_trans hg2 hg3, r1, r2, r3⟩

theorem merge_any {base s n : Nat} {hdr : Value} (N : Nat) : ∀ (f g : Nat), f + g ≤ N → ∀ (w : World) (ns : Nat → Nd) (a b : Int) (l1 l2 : List Nat), Pool w base s hdr n ns → G n ns → T n ns f a l1 → T n ns g b l2 → (l1 ++ l2).Nodup →
    Calls Yba.prog 24 #[.pointer (some ⟨s, 0, none⟩), .int .i32 a, .int .i32 b] w (Merged base s hdr n w ns (f + g) (l1 ++ l2)) := by
  induction N with
  | zero =>
    intro f g hfg w ns a b l1 l2 hP hG hA hB _
    obtain rfl : f = 0 := by omega
    obtain ⟨rfl, rfl⟩ := hA
    exact merge_left_none hP hG hB 0
  | succ N ih =>
    intro f g hfg w ns a b l1 l2 hP hG hA hB hN
    cases f with
    | zero =>
      obtain ⟨rfl, rfl⟩ := hA
      exact merge_left_none hP hG hB 0
    | succ f =>
      rcases hA with ⟨rfl, rfl⟩ | ⟨i, k1, k2, rfl, hi, rfl, h1, h2, h3⟩
      · exact merge_left_none hP hG hB (f + 1)
      · have hA' : T n ns (f + 1) (i : Int) (k1 ++ i :: k2) := .inr ⟨i, k1, k2, rfl, hi, rfl, h1, h2, h3⟩
        cases g with
        | zero =>
          obtain ⟨rfl, rfl⟩ := hB
          exact merge_right_none hP hG hA' 0
        | succ g =>
          rcases hB with ⟨rfl, rfl⟩ | ⟨j, m1, m2, rfl, hj, rfl, q1, q2, q3⟩
          · exact merge_right_none hP hG hA' (g + 1)
          · have hB' : T n ns (g + 1) (j : Int) (m1 ++ j :: m2) := .inr ⟨j, m1, m2, rfl, hj, rfl, q1, q2, q3⟩
            obtain ⟨B, cap, rfl, _⟩ := hP.form (by omega)
            by_cases hp : (ns j).prio < (ns i).prio
            · refine merge_top_left hP hi hj hp h1 hN (fun w hP' => ih f (g + 1) (by omega) w ns _ _ _ _ hP' hG h2 hB' ?_)
              have hN' : (k1 ++ i :: (k2 ++ (m1 ++ j :: m2))).Nodup := by simpa using hN
              exact (nodup_node hN').2.1
            · refine merge_top_right hP hi hj hp q2 hN (fun w hP' => ih (f + 1) g (by omega) w ns _ _ _ _ hP' hG hA' q1 ?_)
              have hN' : (((k1 ++ i :: k2) ++ m1) ++ j :: m2).Nodup := by simpa using hN
              exact (nodup_node hN').1
end Go.Proofs.Ybulkfhsm.B
