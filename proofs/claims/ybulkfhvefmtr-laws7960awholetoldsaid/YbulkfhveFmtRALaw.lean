/-
  The walk of the law A: its head.
-/
import Derived.Test.YbulkfhveFmtRALaw9
namespace Go.Proofs.YbulkfhveFmtR.A
open Go.RowKit
attribute [local go_sem ↓] Go.wp_at_zero Go.wp_at_succ

def tLead : Tk := ⟨2, { data := #[108, 101, 97, 100] }⟩
/-- 'abs', 'not' or nothing. -/
def pre (m : Nat) : List Tk := if m = 1 then [tAbs] else if m = 2 then [tNot] else []
theorem pre_length (m : Nat) : (pre m).length ≤ 1 := by
  unfold pre
  repeat' split
  all_goals simp
/-- '**' and a primary, or nothing. -/
def pw (c : Bool) (k : UInt8) (s : List UInt8) : List Tk := if c then tPow :: prim k s else []
theorem Bytes.mono {W : World} {B B' : Nat} {pa : Option Addr} {t : List UInt8} (h : Bytes W B pa t) (hB : B ≤ B') : Bytes W B' pa t :=
  ⟨fun h0 => by obtain ⟨b, o, e, hl⟩ := h.form h0; exact ⟨b, o, e, by omega⟩, h.cell⟩
theorem Row.mono {W : World} {B B' : Nat} {v : Value} {l : List Tk} (h : Row W B v l) (hB : B' ≤ B) : Row W B' v l :=
  ⟨h.1, h.2.imp id fun ⟨g, cap, cur, e, hb, r⟩ => ⟨g, cap, cur, e, by omega, r⟩⟩

theorem Seg.mid (a b c : List Tk) : Seg (a ++ (b ++ c)) a.length b := fun m x e => by
  have hm := (List.getElem?_eq_some_iff.1 e).1
  rw [List.getElem?_append_right (by omega), Nat.add_sub_cancel_left, List.getElem?_append_left hm]
  exact e
theorem next_at (a : List Tk) (z : Tk) (l : List Tk) : (a ++ (z :: l))[a.length]? = some z := by simp
theorem tail_head (t : Nat) : ∃ z l, tailOf t ++ [tEof] = z :: l ∧ Ends z ∧ (t ≠ 4 → isT z bPow = false) := by
  unfold tailOf
  repeat' split
  · exact ⟨_, _, rfl, ⟨by decide, by decide, by decide⟩, fun _ => by decide⟩
  · exact ⟨_, _, rfl, ⟨by decide, by decide, by decide⟩, fun _ => by decide⟩
  · exact ⟨_, _, rfl, ⟨by decide, by decide, by decide⟩, fun _ => by decide⟩
  · rename_i h
    exact ⟨_, _, rfl, ⟨by decide, by decide, by decide⟩, fun h' => absurd h h'⟩
  · exact ⟨_, _, rfl, ⟨by decide, by decide, by decide⟩, fun _ => by decide⟩

/-- The plain law. -/
theorem fac_all {a : List Tk} {m t : Nat} {k1 k2 : UInt8} {s1 s2 : List UInt8} {pow : Bool} (hm : m < 3) (ht : t = 4 → ¬ (m = 0 ∧ pow = false)) :
    Fac (a ++ (pre m ++ (prim k1 s1 ++ pw (decide (m = 0) && pow) k2 s2)) ++ tailOf t ++ [tEof]) a.length (a ++ (pre m ++ (prim k1 s1 ++ pw (decide (m = 0) && pow) k2 s2))).length := by
  obtain ⟨z, l, ez, he, hp⟩ := tail_head t
  rw [List.append_assoc, ez]
  have hseg := Seg.mid a (pre m ++ (prim k1 s1 ++ pw (decide (m = 0) && pow) k2 s2)) (z :: l)
  rw [← List.append_assoc] at hseg
  have hz := next_at (a ++ (pre m ++ (prim k1 s1 ++ pw (decide (m = 0) && pow) k2 s2))) z l
  have hlen : (a ++ (pre m ++ (prim k1 s1 ++ pw (decide (m = 0) && pow) k2 s2))).length = a.length + ((pre m).length + ((prim k1 s1).length + (pw (decide (m = 0) && pow) k2 s2).length)) := by simp
  rw [hlen] at hz ⊢
  clear hlen
  generalize (a ++ (pre m ++ (prim k1 s1 ++ pw (decide (m = 0) && pow) k2 s2)) ++ z :: l) = L at hseg hz ⊢
  generalize a.length = i at hseg hz ⊢
  intro W g tb cap dep sub hps
  rcases (show m = 0 ∨ m = 1 ∨ m = 2 by omega) with rfl | rfl | rfl
  · cases pow with
    | true =>
      have e : i + ((pre 0).length + ((prim k1 s1).length + (pw (decide (0 = 0) && true) k2 s2).length)) = i + (prim k1 s1).length + 1 + (prim k2 s2).length := by simp [pre, pw]; omega
      rw [e] at hz ⊢
      exact factor_two hps hseg hz he
    | false =>
      have e : i + ((pre 0).length + ((prim k1 s1).length + (pw (decide (0 = 0) && false) k2 s2).length)) = i + (prim k1 s1).length := by simp [pre, pw]
      rw [e] at hz ⊢
      have hseg' : Seg L i (prim k1 s1) := by simpa [pre, pw] using hseg
      exact factor_one hps hseg' hz he (hp fun e4 => ht e4 ⟨rfl, rfl⟩)
  · have e : i + ((pre 1).length + ((prim k1 s1).length + (pw (decide (1 = 0) && pow) k2 s2).length)) = i + 1 + (prim k1 s1).length := by simp [pre, pw]; omega
    rw [e] at hz ⊢
    have hseg' : Seg L i (tAbs :: prim k1 s1) := by simpa [pre, pw] using hseg
    exact factor_not hps (.inl rfl) hseg' hz he
  · have e : i + ((pre 2).length + ((prim k1 s1).length + (pw (decide (2 = 0) && pow) k2 s2).length)) = i + 1 + (prim k1 s1).length := by simp [pre, pw]; omega
    rw [e] at hz ⊢
    have hseg' : Seg L i (tNot :: prim k1 s1) := by simpa [pre, pw] using hseg
    exact factor_not hps (.inr rfl) hseg' hz he

set_option maxRecDepth 100000 in
set_option maxHeartbeats 16000000 in
theorem law_walk {w : World} {ld md tl k1 k2 : UInt8} {s1 s2 : List UInt8} {pa1 pa2 : Option Addr} {pc1 pc2 : Nat} {pow : Bool} {dep : Int} {sub : Bool} (hs1 : Bytes w w.heap.size pa1 s1) (hs2 : Bytes w w.heap.size pa2 s2) :
    Calls Ybaf.prog 3 #[.int .u8 (ld.toNat : Int), .int .u8 (md.toNat : Int), .agg #[.int .u8 (k1.toNat : Int), .slice pa1 s1.length pc1], .bool pow, .agg #[.int .u8 (k2.toNat : Int), .slice pa2 s2.length pc2], .int .u8 (tl.toNat : Int), .int .i64 dep, .bool sub] w (Yes w) := by
  have a0 : (0 : Int) ≤ (s1.length : Int) := by omega
  have a1 : (0 : Int) ≤ (s2.length : Int) := by omega
  obtain ⟨c10, ec⟩ : ∃ c, c = w.heap.size := ⟨_, rfl⟩
  have b10 : Blk ((w.alloc (.cells #[.int .u8 (k1.toNat : Int), .slice pa1 s1.length pc1] 24)).alloc (.cells #[.int .u8 (k2.toNat : Int), .slice pa2 s2.length pc2] 24)) c10 24 [.int .u8 (k1.toNat : Int), .slice pa1 s1.length pc1] := by rw [ec]; exact (Blk.new w 24 _).alloc _
  have b12 : Blk ((w.alloc (.cells #[.int .u8 (k1.toNat : Int), .slice pa1 s1.length pc1] 24)).alloc (.cells #[.int .u8 (k2.toNat : Int), .slice pa2 s2.length pc2] 24)) (c10 + 1) 24 [.int .u8 (k2.toNat : Int), .slice pa2 s2.length pc2] := by
    have := Blk.new (w.alloc (.cells #[.int .u8 (k1.toNat : Int), .slice pa1 s1.length pc1] 24)) 24 [.int .u8 (k2.toNat : Int), .slice pa2 s2.length pc2]
    rw [World.size_alloc, ← ec] at this
    exact this
  have bel : Below w.heap.size w ((w.alloc (.cells #[.int .u8 (k1.toNat : Int), .slice pa1 s1.length pc1] 24)).alloc (.cells #[.int .u8 (k2.toNat : Int), .slice pa2 s2.length pc2] 24)) := ((Below.refl _ w).alloc (Nat.le_refl _) _).alloc (by simp) _
  go_enter Ybaf.func3, Ybaf.ntmps3
  go_upto_region 1 with (fail)
  simp only [← ec]
  generalize ((w.alloc (.cells #[.int .u8 (k1.toNat : Int), .slice pa1 s1.length pc1] 24)).alloc (.cells #[.int .u8 (k2.toNat : Int), .slice pa2 s2.length pc2] 24)) = W at b10 b12 bel ⊢
  clear ec
  have x1 := b10.cell (i := 1) rfl
  have x2 := b12.cell (i := 1) rfl
  by_cases big1 : 65536 < s1.length
  · have big1' : (65536 : Int) < (s1.length : Int) := by omega
    go_wp2
    go_ret
    exact ⟨rfl, bel⟩
  have big1' : ¬ (65536 : Int) < (s1.length : Int) := by omega
  by_cases big2 : 65536 < s2.length
  · have big2' : (65536 : Int) < (s2.length : Int) := by omega
    go_wp2
    go_ret
    exact ⟨rfl, bel⟩
  have big2' : ¬ (65536 : Int) < (s2.length : Int) := by omega
  have l1 : s1.length ≤ 65536 := by omega
  have l2 : s2.length ≤ 65536 := by omega
  obtain ⟨B, eB⟩ : ∃ B, B = W.heap.size := ⟨_, rfl⟩
  have q1 : c10 < B := by rw [eB]; exact b10.lt
  have q2 : c10 + 1 < B := by rw [eB]; exact b12.lt
  have HS1 : Bytes W B pa1 s1 := (hs1.below bel).mono (by rw [eB]; exact bel.size)
  have HS2 : Bytes W B pa2 s2 := (hs2.below bel).mono (by rw [eB]; exact bel.size)
  have EB := hide eB
  clear eB hs1 hs2
  have HB : ∀ W', Below B W W' → B ≤ W'.heap.size := fun W' h => by rw [EB.out]; exact h.size
  have p1 := ld.toNat_lt
  have p2 := md.toNat_lt
  have p3 := tl.toNat_lt
  obtain ⟨n, en⟩ : ∃ n : Nat, (ld.toNat : Int) % 4 = (n : Int) := ⟨ld.toNat % 4, by omega⟩
  obtain ⟨m, em⟩ : ∃ m : Nat, (md.toNat : Int) % 3 = (m : Int) := ⟨md.toNat % 3, by omega⟩
  obtain ⟨t, et⟩ : ∃ t : Nat, (tl.toNat : Int) % 5 = (t : Int) := ⟨tl.toNat % 5, by omega⟩
  have n4 : (n : Int) < 4 := by omega
  have n0 : (0 : Int) ≤ (n : Int) := by omega
  have m3 : m < 3 := by omega
  have t5 : t < 5 := by omega
  go_upto_block 0 with (fail)
  clear en em et x1 x2 big1 big2 big1' big2' p1 p2 p3
  go_cut [19, 21] from 46 to 54 (fun v' _ W' => Row W' B v' (List.replicate n tLead) ∧ Below B W W')
  case first =>
    go_wp2_with fail
    go_loopw [19, 21] (fun v' y W' => ∃ j : Nat, y = .int .i64 (j : Int) ∧ j ≤ n ∧ Row W' B v' (List.replicate j tLead) ∧ Below B W W') (fun _ y _ => n - (intOf y).toNat)
    case atStart => exact ⟨0, rfl, by omega, Row.nil _ _, Below.refl _ _⟩
    case round =>
      obtain ⟨j, rfl, hj, hrow, hbl⟩ := hrel
      have j0 : (0 : Int) ≤ (j : Int) := by omega
      have hB3 := HB _ hbl
      by_cases hlt : j < n
      · have j1 : (j : Int) < (n : Int) := by omega
        go_wp2_with fail
        refine (tok_any tLead.k tLead.t).mono ?_
        rintro e w2 ⟨rfl, hb2⟩
        have hr2 := put_row hrow hb2
        have bel2 : Below B W w2 := hbl.trans (hb2.mono hB3)
        have hB2 : B ≤ w2.heap.size := Nat.le_trans hB3 hb2.size
        go_wp2_with (at_builtin; refine app (v := u19) rfl _ _ rfl rfl (hr2.alloc _) [tLead] _ _ rfl (lies_new _ _ [tLead]) (by simp; omega) (by simp; exact Nat.le_succ_of_le hB2) ?_; intro v3 w3 hr3 hg3)
        have bel3 : Below B W w3 := (bel2.alloc hB2 _).grown hg3 (by simp; exact Nat.le_succ_of_le hB2) (fun k e => (hr2.lt k e).1)
        refine ⟨⟨j + 1, by go_num, by omega, ?_, bel3⟩, by simp [intOf]; omega⟩
        rw [List.replicate_succ']
        exact hr3
      · have j1 : ¬ (j : Int) < (n : Int) := by omega
        obtain rfl : j = n := by omega
        go_wp2
        go_meet
        case rel => exact ⟨hrow, hbl⟩
  case rest =>
  obtain ⟨hr4, bel4⟩ := hcut
  have hB4 := HB _ bel4
  obtain ⟨A, eA⟩ : ∃ A, A = List.replicate n tLead := ⟨_, rfl⟩
  rw [← eA] at hr4
  have hA : A.length ≤ 3 := by rw [eA, List.length_replicate]; omega
  clear eA
  obtain ⟨va4, vc4, e4⟩ := hr4.form
  subst e4
  go_upto_if 58 with (fail)
  go_cut [19, 17, 39, 57, 58] from 59 to 68 (fun v' x _ _ _ W' => Row W' B v' (A ++ pre m) ∧ x = .int .i64 (m : Int) ∧ Below B W W')
  case first =>
    rcases (show m = 0 ∨ m = 1 ∨ m = 2 by omega) with e | e | e
    all_goals
      have HM := hide e
    · have e' : (m : Int) = 0 := by omega
      clear e
      go_wp2
      go_meet
      case rel => exact ⟨by rw [HM.out]; simpa [pre] using hr4, by first | rfl | rw [e'], bel4⟩
    · have e' : (m : Int) = 1 := by omega
      clear e
      go_wp2_with fail
      refine (tok_any tAbs.k tAbs.t).mono ?_
      rintro e w2 ⟨rfl, hb2⟩
      have hr2 := put_row hr4 hb2
      have bel2 : Below B W w2 := bel4.trans (hb2.mono hB4)
      have hB2 : B ≤ w2.heap.size := Nat.le_trans hB4 hb2.size
      go_wp2_with (at_builtin; refine app (v := (.slice va4 A.length vc4)) rfl _ _ rfl rfl (hr2.alloc _) [tAbs] _ _ rfl (lies_new _ _ [tAbs]) (by simp; omega) (by simp; exact Nat.le_succ_of_le hB2) ?_; intro v3 w3 hr3 hg3)
      have bel3 : Below B W w3 := (bel2.alloc hB2 _).grown hg3 (by simp; exact Nat.le_succ_of_le hB2) (fun k e => (hr2.lt k e).1)
      go_meet
      case rel => exact ⟨by rw [HM.out]; exact hr3, by first | rfl | rw [e'], bel3⟩
    · have e' : (m : Int) = 2 := by omega
      clear e
      go_wp2_with fail
      refine (tok_any tNot.k tNot.t).mono ?_
      rintro e w2 ⟨rfl, hb2⟩
      have hr2 := put_row hr4 hb2
      have bel2 : Below B W w2 := bel4.trans (hb2.mono hB4)
      have hB2 : B ≤ w2.heap.size := Nat.le_trans hB4 hb2.size
      go_wp2_with (at_builtin; refine app (v := (.slice va4 A.length vc4)) rfl _ _ rfl rfl (hr2.alloc _) [tNot] _ _ rfl (lies_new _ _ [tNot]) (by simp; omega) (by simp; exact Nat.le_succ_of_le hB2) ?_; intro v3 w3 hr3 hg3)
      have bel3 : Below B W w3 := (bel2.alloc hB2 _).grown hg3 (by simp; exact Nat.le_succ_of_le hB2) (fun k e => (hr2.lt k e).1)
      go_meet
      case rel => exact ⟨by rw [HM.out]; exact hr3, by first | rfl | rw [e'], bel3⟩
  case rest =>
  obtain ⟨hr5, rfl, bel5⟩ := hcut
  clear hr4 bel4 hB4
  rename World => w5
  have hB5 := HB _ bel5
  have z1 := (b10.below bel5 q1).cell (i := 0) rfl
  have z2 := (b10.below bel5 q1).cell (i := 1) rfl
  have hpre := pre_length m
  go_upto_region 16 with (fail)
  go_cut [19] from 69 to 71 (fun v' W' => Row W' B v' (A ++ pre m ++ prim k1 s1) ∧ Below B W W')
  case first =>
    go_wp2_with fail
    refine (prim_any hr5 hB5 (HS1.below bel5) (by simp; omega) l1).mono ?_
    rintro e w6 ⟨v6, rfl, hr6, hbb⟩
    go_wp2
    go_meet
    case rel => exact ⟨hr6, bel5.trans hbb⟩
  case rest =>
  obtain ⟨hr6, bel6⟩ := hcut
  clear hr5 bel5 hB5 z1 z2
  rename World => w6
  have hB6 := HB _ bel6
  have hp1 := prim_length k1 s1
  obtain ⟨A2, eA2⟩ : ∃ A2, A2 = A ++ pre m ++ prim k1 s1 := ⟨_, rfl⟩
  rw [← eA2] at hr6
  have hA2 : A2.length ≤ 200000 := by rw [eA2]; simp; omega
  have EA2 := hide eA2
  clear eA2
  obtain ⟨c, ec⟩ : ∃ c, c = (decide (m = 0) && pow) := ⟨_, rfl⟩
  have EC := hide ec
  clear ec
  go_upto_region 17 with (fail)
  go_cut [76, 17, 72] from 73 to 76 (fun b x _ W' => b = .bool c ∧ x = .int .i64 (m : Int) ∧ W' = w6)
  case first =>
    by_cases h0 : m = 0
    · have h0' : (m : Int) = 0 := by omega
      cases pow with
      | true =>
        have EC2 := hide (show c = true by rw [EC.out]; simp [h0])
        clear h0
        go_wp2
        go_meet
        case rel => exact ⟨by rw [EC2.out], by first | rfl | rw [h0'], rfl⟩
      | false =>
        have EC2 := hide (show c = false by rw [EC.out]; simp)
        clear h0
        go_wp2
        go_meet
        case rel => exact ⟨by rw [EC2.out], by first | rfl | rw [h0'], rfl⟩
    · have h0' : ¬ (m : Int) = 0 := by omega
      have EC2 := hide (show c = false by rw [EC.out]; simp [h0])
      go_wp2
      go_meet
      case rel => exact ⟨by rw [EC2.out], rfl, rfl⟩
  case rest =>
  obtain ⟨rfl, rfl, ew⟩ := hcut
  obtain rfl := ew.symm
  clear ew
  go_upto_if 76 with (fail)
  go_cut [19, 76] from 77 to 83 (fun v' _ W' => Row W' B v' (A2 ++ pw c k2 s2) ∧ Below B W W')
  case first =>
    cases c with
    | true =>
      go_wp2_with fail
      refine (tok_any tPow.k tPow.t).mono ?_
      rintro e w2 ⟨rfl, hb2⟩
      have hr2 := put_row hr6 hb2
      have bel2 : Below B W w2 := bel6.trans (hb2.mono hB6)
      have hB2 : B ≤ w2.heap.size := Nat.le_trans hB6 hb2.size
      go_upto_region 19 with (at_builtin; refine app (v := u19) rfl _ _ rfl rfl (hr2.alloc _) [tPow] _ _ rfl (lies_new _ _ [tPow]) (by simp; omega) (by simp; exact Nat.le_succ_of_le hB2) ?_; intro v3 w3 hr3 hg3)
      have bel3 : Below B W w3 := (bel2.alloc hB2 _).grown hg3 (by simp; exact Nat.le_succ_of_le hB2) (fun k e => (hr2.lt k e).1)
      have hB3 := HB _ bel3
      have z3 := (b12.below bel3 q2).cell (i := 0) rfl
      have z4 := (b12.below bel3 q2).cell (i := 1) rfl
      go_wp2_with fail
      refine (prim_any hr3 hB3 (HS2.below bel3) (by simp; omega) l2).mono ?_
      rintro e w7 ⟨v7, rfl, hr7, hbb⟩
      go_wp2
      go_meet
      case rel => exact ⟨by rw [List.append_assoc] at hr7; exact hr7, bel3.trans hbb⟩
    | false =>
      go_wp2
      go_meet
      case rel => exact ⟨by simpa [pw] using hr6, bel6⟩
  case rest =>
  obtain ⟨hr7, bel7⟩ := hcut
  rename_i hK
  refine hK _ _ ?_
  clear hK
  have hp2 := prim_length k2 s2
  have hpw : (pw c k2 s2).length ≤ 140000 := by unfold pw; split <;> simp; omega
  have eb : A2 ++ pw c k2 s2 = A ++ (pre m ++ (prim k1 s1 ++ pw (decide (m = 0) && pow) k2 s2)) := by rw [EA2.out, EC.out]; simp
  refine part_20 (hr7.mono (by rw [EB.out]; exact bel.size)) (bel.trans (bel7.mono (by rw [EB.out]; exact bel.size))) t5 (fun t' h5 h4 => ?_) ?_ ?_
  · rw [eb]; exact fac_all m3 h4
  · rw [eb]; simp
  · rw [List.length_append]; omega
end Go.Proofs.YbulkfhveFmtR.A
