/-
  parsePrimary, parseFactor.
-/
import Derived.Test.YbulkfhveFmtRAName
namespace Go.Proofs.YbulkfhveFmtR.A
open Go.RowKit
attribute [local go_sem ↓] Go.wp_at_zero Go.wp_at_succ

def bNull : ByteArray := { data := #[110, 117, 108, 108] }
def bNew : ByteArray := { data := #[110, 101, 119] }
def bAbs : ByteArray := { data := #[97, 98, 115] }
def bNot : ByteArray := { data := #[110, 111, 116] }
def bPow : ByteArray := { data := #[42, 42] }
def tPow : Tk := ⟨7, bPow⟩
def tAbs : Tk := ⟨3, bAbs⟩
def tNot : Tk := ⟨3, bNot⟩

theorem hd_form (k : Nat) : ((hd k).k = 2 ∨ (hd k).k = 6 ∨ (hd k).k = 5) ∧ isT (hd k) bNull = false ∧ isT (hd k) bNew = false ∧ isT (hd k) bOpen = false ∧ isT (hd k) bAbs = false ∧ isT (hd k) bNot = false := by
  unfold hd
  repeat' split
  · exact ⟨.inl rfl, by decide, by decide, by decide, by decide, by decide⟩
  · exact ⟨.inr (.inl rfl), by decide, by decide, by decide, by decide, by decide⟩
  · exact ⟨.inr (.inr rfl), by decide, by decide, by decide, by decide, by decide⟩
/-- A primary's first token is no 'abs' and no 'not'. -/
theorem prim_first (k : UInt8) (s : List UInt8) : ∃ x l, prim k s = x :: l ∧ isT x bAbs = false ∧ isT x bNot = false := by
  unfold prim
  repeat' split
  · exact ⟨_, _, rfl, by decide, by decide⟩
  · exact ⟨_, _, rfl, by decide, by decide⟩
  · exact ⟨_, _, rfl, (hd_form _).2.2.2.2⟩

set_option maxRecDepth 100000 in
set_option maxHeartbeats 8000000 in
theorem primary_any {W : World} {g tb cap : Nat} {L : List Tk} {i : Nat} {dep : Int} {sub : Bool} {z : Tk} {k : UInt8} {s : List UInt8} (h : Ps W g tb cap L i dep sub) (hseg : Seg L i (prim k s)) (hz : L[i + (prim k s).length]? = some z) (he : Ends z) :
    Calls Ybaf.prog 9 #[.pointer (some ⟨g, 0, none⟩)] W fun e w' => (∃ v, e = .returned v) ∧ Moved W w' g tb cap L (i + (prim k s).length) dep sub := by
  have hzl : i + (prim k s).length < L.length := (List.getElem?_eq_some_iff.1 hz).1
  have f28 := fld28
  by_cases k0 : k.toNat % 5 = 0
  · have ep : prim k s = [tNum] := by simp [prim, k0]
    rw [ep] at hseg hzl ⊢
    have hx := hseg.head
    go_enter Ybaf.func9, Ybaf.ntmps9
    go_wp2_with fail
    refine (tokk_any h hx).mono ?_
    rintro e w1 ⟨rfl, hg1⟩
    have ek : tNum.k = 4 := rfl
    go_wp2_with fail
    refine (next_any (h.grown hg1) hx hzl).mono ?_
    rintro e w2 ⟨rfl, hp2, hg2⟩
    go_wp2
    refine bodyPost_end (results_none rfl _ _ _) rfl ?_
    exact ⟨⟨_, rfl⟩, hp2, grown_two (grown_rise hg1 g) hg2⟩
  by_cases k1 : k.toNat % 5 = 1
  · have ep : prim k s = [tNull] := by simp [prim, k1]
    rw [ep] at hseg hzl ⊢
    have hx := hseg.head
    go_enter Ybaf.func9, Ybaf.ntmps9
    go_wp2_with fail
    refine (tokk_any h hx).mono ?_
    rintro e w1 ⟨rfl, hg1⟩
    have ek : tNull.k = 3 := rfl
    go_wp2_with fail
    refine (is_any bNull (h.grown hg1) hx).mono ?_
    rintro e w2 ⟨rfl, hg2⟩
    rw [show isT tNull bNull = true by decide]
    go_wp2_with fail
    refine (next_any ((h.grown hg1).grown hg2) hx hzl).mono ?_
    rintro e w3 ⟨rfl, hp3, hg3⟩
    go_wp2
    refine bodyPost_end (results_none rfl _ _ _) rfl ?_
    exact ⟨⟨_, rfl⟩, hp3, grown_two (grown_rise (grown_none hg1 hg2) g) hg3⟩
  have ep : prim k s = hd (k.toNat % 5) :: sfxs s := by simp [prim, k0, k1]
  obtain ⟨y, ey⟩ : ∃ y, y = hd (k.toNat % 5) := ⟨_, rfl⟩
  obtain ⟨hy, h1, h2, h3, _⟩ := hd_form (k.toNat % 5)
  rw [← ey] at hy h1 h2 h3 ep
  have en : i + (prim k s).length = i + 1 + 2 * s.length := by rw [ep]; simp [sfxs_length]; omega
  rw [en] at hz hzl ⊢
  rw [ep] at hseg
  clear ep en ey
  have hx := hseg.head
  have y4 : ¬ y.k = 4 := by rcases hy with e | e | e <;> omega
  go_enter Ybaf.func9, Ybaf.ntmps9
  go_wp2_with fail
  refine (tokk_any h hx).mono ?_
  rintro e w1 ⟨rfl, hg1⟩
  have hp1 := h.grown hg1
  go_wp2_with fail
  refine (is_any bNull hp1 hx).mono ?_
  rintro e w2 ⟨rfl, hg2⟩
  rw [h1]
  have hp2 := hp1.grown hg2
  have hg2' := grown_none hg1 hg2
  go_wp2_with fail
  refine (accept_no bNew hp2 hx h2).mono ?_
  rintro e w3 ⟨rfl, hg3⟩
  have hp3 := hp2.grown hg3
  have hg3' := grown_none hg2' hg3
  go_wp2_with fail
  refine (is_any bOpen hp3 hx).mono ?_
  rintro e w4 ⟨rfl, hg4⟩
  rw [h3]
  have hp4 := hp3.grown hg4
  have hg4' := grown_none hg3' hg4
  have hnm := name_any hp4 hy hseg hz he
  have HNM := hide hnm
  clear hnm
  rcases hy with hy | hy | hy
  all_goals
    go_wp2_with fail
    refine HNM.out.mono ?_
    rintro e w5 ⟨⟨v, rfl⟩, hp5, hg5⟩
    go_wp2
    refine bodyPost_end (results_none rfl _ _ _) rfl ?_
    exact ⟨⟨_, rfl⟩, hp5, grown_two (grown_rise hg4' g) hg5⟩

theorem ends_pow : Ends tPow := ⟨by decide, by decide, by decide⟩

set_option maxRecDepth 100000 in
set_option maxHeartbeats 8000000 in
/-- 'abs' or 'not' and a primary. -/
theorem factor_not {W : World} {g tb cap : Nat} {L : List Tk} {i : Nat} {dep : Int} {sub : Bool} {t z : Tk} {k : UInt8} {s : List UInt8} (h : Ps W g tb cap L i dep sub) (ht : t = tAbs ∨ t = tNot) (hseg : Seg L i (t :: prim k s)) (hz : L[i + 1 + (prim k s).length]? = some z) (he : Ends z) :
    Calls Ybaf.prog 6 #[.pointer (some ⟨g, 0, none⟩)] W fun e w' => (∃ v, e = .returned v) ∧ Moved W w' g tb cap L (i + 1 + (prim k s).length) dep sub := by
  have hzl : i + 1 + (prim k s).length < L.length := (List.getElem?_eq_some_iff.1 hz).1
  have hx := hseg.head
  rcases ht with rfl | rfl
  · go_enter Ybaf.func6, Ybaf.ntmps6
    go_wp2_with fail
    refine (accept_yes bAbs h hx (by omega) (by decide)).mono ?_
    rintro e w1 ⟨rfl, hp1, hg1⟩
    go_wp2_with fail
    refine (primary_any hp1 hseg.tail hz he).mono ?_
    rintro e w2 ⟨⟨v, rfl⟩, hp2, hg2⟩
    go_wp2
    refine bodyPost_ret (results_none rfl _ _ _) rfl ?_
    exact ⟨⟨_, rfl⟩, hp2, grown_two hg1 hg2⟩
  · go_enter Ybaf.func6, Ybaf.ntmps6
    go_wp2_with fail
    refine (accept_no bAbs h hx (by decide)).mono ?_
    rintro e w1 ⟨rfl, hg1⟩
    go_wp2_with fail
    refine (accept_yes bNot (h.grown hg1) hx (by omega) (by decide)).mono ?_
    rintro e w2 ⟨rfl, hp2, hg2⟩
    go_wp2_with fail
    refine (primary_any hp2 hseg.tail hz he).mono ?_
    rintro e w3 ⟨⟨v, rfl⟩, hp3, hg3⟩
    go_wp2
    refine bodyPost_ret (results_none rfl _ _ _) rfl ?_
    exact ⟨⟨_, rfl⟩, hp3, grown_two (grown_two (grown_rise hg1 g) hg2) hg3⟩

set_option maxRecDepth 100000 in
set_option maxHeartbeats 8000000 in
/-- A primary alone. -/
theorem factor_one {W : World} {g tb cap : Nat} {L : List Tk} {i : Nat} {dep : Int} {sub : Bool} {z : Tk} {k : UInt8} {s : List UInt8} (h : Ps W g tb cap L i dep sub) (hseg : Seg L i (prim k s)) (hz : L[i + (prim k s).length]? = some z) (he : Ends z) (hp : isT z bPow = false) :
    Calls Ybaf.prog 6 #[.pointer (some ⟨g, 0, none⟩)] W fun e w' => (∃ v, e = .returned v) ∧ Moved W w' g tb cap L (i + (prim k s).length) dep sub := by
  obtain ⟨x, l, ex, h1, h2⟩ := prim_first k s
  have hx : L[i]? = some x := by rw [ex] at hseg; exact hseg.head
  clear ex
  go_enter Ybaf.func6, Ybaf.ntmps6
  go_wp2_with fail
  refine (accept_no bAbs h hx h1).mono ?_
  rintro e w1 ⟨rfl, hg1⟩
  go_wp2_with fail
  refine (accept_no bNot (h.grown hg1) hx h2).mono ?_
  rintro e w2 ⟨rfl, hg2⟩
  have hg2' := grown_none hg1 hg2
  go_wp2_with fail
  refine (primary_any (h.grown hg2') hseg hz he).mono ?_
  rintro e w3 ⟨⟨v, rfl⟩, hp3, hg3⟩
  go_wp2_with fail
  refine (accept_no bPow hp3 hz hp).mono ?_
  rintro e w4 ⟨rfl, hg4⟩
  go_wp2
  refine bodyPost_end (results_none rfl _ _ _) rfl ?_
  exact ⟨⟨_, rfl⟩, hp3.grown hg4, grown_more (grown_two (grown_rise hg2' g) hg3) hg4⟩

set_option maxRecDepth 100000 in
set_option maxHeartbeats 8000000 in
/-- Two primaries and '**' between them. -/
theorem factor_two {W : World} {g tb cap : Nat} {L : List Tk} {i : Nat} {dep : Int} {sub : Bool} {z : Tk} {k k' : UInt8} {s s' : List UInt8} (h : Ps W g tb cap L i dep sub) (hseg : Seg L i (prim k s ++ (tPow :: prim k' s'))) (hz : L[i + (prim k s).length + 1 + (prim k' s').length]? = some z) (he : Ends z) :
    Calls Ybaf.prog 6 #[.pointer (some ⟨g, 0, none⟩)] W fun e w' => (∃ v, e = .returned v) ∧ Moved W w' g tb cap L (i + (prim k s).length + 1 + (prim k' s').length) dep sub := by
  have hzl := (List.getElem?_eq_some_iff.1 hz).1
  have hx := hseg.left
  have hq := hseg.right
  obtain ⟨x, l, ex, h1, h2⟩ := prim_first k s
  have hx0 : L[i]? = some x := by rw [ex] at hx; exact hx.head
  clear ex hseg
  go_enter Ybaf.func6, Ybaf.ntmps6
  go_wp2_with fail
  refine (accept_no bAbs h hx0 h1).mono ?_
  rintro e w1 ⟨rfl, hg1⟩
  go_wp2_with fail
  refine (accept_no bNot (h.grown hg1) hx0 h2).mono ?_
  rintro e w2 ⟨rfl, hg2⟩
  have hg2' := grown_none hg1 hg2
  go_wp2_with fail
  refine (primary_any (h.grown hg2') hx hq.head ends_pow).mono ?_
  rintro e w3 ⟨⟨v, rfl⟩, hp3, hg3⟩
  go_wp2_with fail
  refine (accept_yes bPow hp3 hq.head (by omega) (by decide)).mono ?_
  rintro e w4 ⟨rfl, hp4, hg4⟩
  go_wp2_with fail
  refine (primary_any hp4 hq.tail hz he).mono ?_
  rintro e w5 ⟨⟨v5, rfl⟩, hp5, hg5⟩
  go_wp2
  refine bodyPost_end (results_none rfl _ _ _) rfl ?_
  exact ⟨⟨_, rfl⟩, hp5, grown_two (grown_two (grown_two (grown_rise hg2' g) hg3) hg4) hg5⟩
end Go.Proofs.YbulkfhveFmtR.A
