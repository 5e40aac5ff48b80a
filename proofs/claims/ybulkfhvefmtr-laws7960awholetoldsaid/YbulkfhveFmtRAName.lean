/-
  parseName over a name with suffixes.
-/
import Derived.Test.YbulkfhveFmtRAPeek
import Derived.Test.YbulkfhveFmtRAPrim
namespace Go.Proofs.YbulkfhveFmtR.A
open Go.RowKit
attribute [local go_sem ↓] Go.wp_at_zero Go.wp_at_succ

theorem grown_rise {a b : World} (h : a.grownBy b none) (g : Nat) : a.grownBy b (some g) := ⟨h.os, h.tape, h.output, h.size, fun k hk _ => h.block k hk (by simp)⟩
theorem grown_more {a b c : World} {g : Nat} (h : a.grownBy b (some g)) (k : b.grownBy c none) : a.grownBy c (some g) := grown_trans h (grown_rise k g) (.inl rfl)
theorem grown_two {a b c : World} {g : Nat} (h : a.grownBy b (some g)) (k : b.grownBy c (some g)) : a.grownBy c (some g) := grown_trans h k (.inl rfl)

/-- The tokens from number i on begin with these. -/
def Seg (L : List Tk) (i : Nat) (l : List Tk) : Prop := ∀ m x, l[m]? = some x → L[i + m]? = some x
theorem Seg.head {L : List Tk} {i : Nat} {x : Tk} {l : List Tk} (h : Seg L i (x :: l)) : L[i]? = some x := h 0 x rfl
theorem Seg.tail {L : List Tk} {i : Nat} {x : Tk} {l : List Tk} (h : Seg L i (x :: l)) : Seg L (i + 1) l := fun m y e => by
  have := h (m + 1) y e
  rwa [show i + (m + 1) = i + 1 + m by omega] at this
theorem Seg.left {L : List Tk} {i : Nat} {l m : List Tk} (h : Seg L i (l ++ m)) : Seg L i l := fun k y e => h k y (by
  rw [List.getElem?_append_left (List.getElem?_eq_some_iff.1 e).1]; exact e)
theorem Seg.right {L : List Tk} {i : Nat} {l m : List Tk} (h : Seg L i (l ++ m)) : Seg L (i + l.length) m := fun k y e => by
  have := h (l.length + k) y (by rw [List.getElem?_append_right (by omega), Nat.add_sub_cancel_left]; exact e)
  rwa [← Nat.add_assoc] at this

def bDot : ByteArray := { data := #[46] }
def bTick : ByteArray := { data := #[39] }
def bOpen : ByteArray := { data := #[40] }
def bAll : ByteArray := { data := #[97, 108, 108] }
def bAttr : List ByteArray := [{ data := #[97, 99, 99, 101, 115, 115] }, { data := #[100, 101, 108, 116, 97] }, { data := #[100, 105, 103, 105, 116, 115] }, { data := #[109, 111, 100] }, { data := #[114, 97, 110, 103, 101] }]

/-- What may stand behind '.' -/
def Sel (q : Tk) : Prop := q.k = 2 ∨ q.k = 6 ∨ (q.k = 3 ∧ isT q bAll = true)
/-- .. and behind the tick. -/
def Att (q : Tk) : Prop := isT q bOpen = false ∧ (q.k = 2 ∨ (q.k = 3 ∧ bAttr.any (isT q) = true))
/-- A suffix is one of the two. -/
theorem sfx_form (c : UInt8) : ∃ p q, sfx c = [p, q] ∧ ((isT p bDot = true ∧ Sel q) ∨ (isT p bDot = false ∧ isT p bTick = true ∧ Att q)) := by
  unfold sfx
  repeat' split
  · exact ⟨_, _, rfl, .inl ⟨by decide, .inl rfl⟩⟩
  · exact ⟨_, _, rfl, .inl ⟨by decide, .inr (.inr ⟨rfl, by decide⟩)⟩⟩
  · exact ⟨_, _, rfl, .inl ⟨by decide, .inr (.inl rfl)⟩⟩
  · exact ⟨_, _, rfl, .inr ⟨by decide, by decide, by decide, .inl rfl⟩⟩
  · exact ⟨_, _, rfl, .inr ⟨by decide, by decide, by decide, .inr ⟨rfl, by decide⟩⟩⟩
  · exact ⟨_, _, rfl, .inr ⟨by decide, by decide, by decide, .inr ⟨rfl, by decide⟩⟩⟩

theorem sfxs_at {L : List Tk} {i : Nat} {s : List UInt8} (h : Seg L i (sfxs s)) {j : Nat} (hj : j < s.length) : Seg L (i + 2 * j) (sfx (s[j]'hj)) := by
  have e : sfxs s = sfxs (s.take j) ++ (sfx (s[j]'hj) ++ sfxs (s.drop (j + 1))) := by
    have e1 : s = s.take j ++ ([s[j]'hj] ++ s.drop (j + 1)) := by simp
    refine (congrArg sfxs e1).trans ?_
    simp only [sfxs, List.flatMap_append, List.flatMap_cons, List.flatMap_nil, List.append_nil]
  rw [e] at h
  have h2 := h.right.left
  rwa [sfxs_length, List.length_take, Nat.min_eq_left (by omega)] at h2

/-- A token that ends a name. -/
structure Ends (z : Tk) : Prop where
  dot : isT z bDot = false
  tick : isT z bTick = false
  opn : isT z bOpen = false

theorem tokk_any {W : World} {g tb cap : Nat} {L : List Tk} {i : Nat} {dep : Int} {sub : Bool} {x : Tk} (h : Ps W g tb cap L i dep sub) (hx : L[i]? = some x) :
    Calls Ybaf.prog 12 #[.pointer (some ⟨g, 0, none⟩)] W fun e w' => e = .returned (.agg #[.int .u8 x.k, .int .i64 (i : Int), .int .i64 ((i + 1 : Nat) : Int), .string x.t]) ∧ W.grownBy w' none := tok12_any h hx

theorem Ps.idx {W : World} {g tb cap : Nat} {L : List Tk} {i : Nat} {dep : Int} {sub : Bool} (h : Ps W g tb cap L i dep sub) : (intOf ((W.cell? ⟨g, 1, none⟩).getD undef)).toNat = i := by
  rw [h.blk.cell (i := 1) rfl]
  simp [intOf]
theorem fld28 (k o e : Int) (t : ByteArray) (w : World) : (Instr.field 28 (.agg #[.int .u8 k, .int .i64 o, .int .i64 e, .string t]) 0).run Ybaf.prog w = .ok (.int .u8 k) w := by kernel_rfl

set_option maxRecDepth 100000 in
set_option maxHeartbeats 8000000 in
theorem name_any {W : World} {g tb cap : Nat} {L : List Tk} {i : Nat} {dep : Int} {sub : Bool} {y z : Tk} {s : List UInt8} (h : Ps W g tb cap L i dep sub) (hy : y.k = 2 ∨ y.k = 6 ∨ y.k = 5) (hseg : Seg L i (y :: sfxs s)) (hz : L[i + 1 + 2 * s.length]? = some z) (he : Ends z) :
    Calls Ybaf.prog 13 #[.pointer (some ⟨g, 0, none⟩)] W fun e w' => (∃ v, e = .returned v) ∧ Moved W w' g tb cap L (i + 1 + 2 * s.length) dep sub := by
  have hzl : i + 1 + 2 * s.length < L.length := (List.getElem?_eq_some_iff.1 hz).1
  have f28 := fld28
  go_enter Ybaf.func13, Ybaf.ntmps13
  go_wp2_with fail
  refine (tokk_any h hseg.head).mono ?_
  rintro e w1 ⟨rfl, hg1⟩
  go_upto_region 2 with (fail)
  go_cut [17, 3, 6, 7] from 8 to 17 (fun b _ _ _ W' => b = .bool false ∧ W' = w1)
  case first =>
    rcases hy with hy | hy | hy
    all_goals
      go_wp2
      go_meet
      case rel => exact ⟨rfl, rfl⟩
  case rest =>
  obtain ⟨rfl, ew⟩ := hcut
  obtain rfl := ew.symm
  clear ew
  go_wp2_with fail
  refine (next_any (h.grown hg1) hseg.head (by omega)).mono ?_
  rintro e w2 ⟨rfl, hp2, hg2⟩
  have hmv : W.grownBy w2 (some g) := grown_two (grown_rise hg1 g) hg2
  go_wp2_with fail
  go_loopw [2, 4, 23, 48, 55, 59, 71] (fun _ _ _ _ _ _ _ W' => ∃ j : Nat, j ≤ s.length ∧ Moved W W' g tb cap L (i + 1 + 2 * j) dep sub) (fun _ _ _ _ _ _ _ W' => L.length - (intOf ((W'.cell? ⟨g, 1, none⟩).getD undef)).toNat)
  case atStart => exact ⟨0, by omega, hp2, hmv⟩
  case round =>
    obtain ⟨j, hj, hpr, hgr⟩ := hrel
    by_cases hlt : j < s.length
    · have hsg := sfxs_at hseg.tail hlt
      obtain ⟨p, q, epq, hform⟩ := sfx_form (s[j]'hlt)
      rw [epq] at hsg
      have hpx := hsg.head
      have hqx := hsg.tail.head
      clear hsg epq
      obtain ⟨n, en⟩ : ∃ n, n = i + 1 + 2 * j := ⟨_, rfl⟩
      rw [← en] at hpr hpx hqx
      have hn : n + 2 < L.length := by omega
      have HN := hide en
      clear en hp2 hmv hg2 hg1
      rcases hform with ⟨hd1, hsel⟩ | ⟨hd0, ht1, ho, hatt⟩
      · go_wp2_with fail
        refine (accept_yes bDot hpr hpx (by omega) hd1).mono ?_
        rintro e w3 ⟨rfl, hp3, hg3⟩
        have hg3' := grown_two hgr hg3
        go_wp2_with fail
        refine (tokk_any hp3 hqx).mono ?_
        rintro e w4 ⟨rfl, hg4⟩
        have hp4 := hp3.grown hg4
        have hg4' := grown_more hg3' hg4
        go_upto_region 8 with (fail)
        rcases hsel with hk | hk | ⟨hk, hall⟩
        · go_wp2_with fail
          refine (next_any hp4 hqx (by omega)).mono ?_
          rintro e w9 ⟨rfl, hp9, hg9⟩
          go_wp2
          refine ⟨⟨j + 1, by omega, ?_, grown_two hg4' hg9⟩, ?_⟩
          · have e9 : n + 1 + 1 = i + 1 + 2 * (j + 1) := by have := HN.out; omega
            rw [e9] at hp9
            exact hp9
          · rw [hp9.idx, hpr.idx]; omega
        · go_wp2_with fail
          refine (next_any hp4 hqx (by omega)).mono ?_
          rintro e w9 ⟨rfl, hp9, hg9⟩
          go_wp2
          refine ⟨⟨j + 1, by omega, ?_, grown_two hg4' hg9⟩, ?_⟩
          · have e9 : n + 1 + 1 = i + 1 + 2 * (j + 1) := by have := HN.out; omega
            rw [e9] at hp9
            exact hp9
          · rw [hp9.idx, hpr.idx]; omega
        · go_wp2_with fail
          refine (is_any bAll hp4 hqx).mono ?_
          rintro e w5 ⟨rfl, hg5⟩
          rw [hall]
          go_wp2_with fail
          refine (next_any (hp4.grown hg5) hqx (by omega)).mono ?_
          rintro e w9 ⟨rfl, hp9, hg9⟩
          go_wp2
          refine ⟨⟨j + 1, by omega, ?_, grown_two (grown_more hg4' hg5) hg9⟩, ?_⟩
          · have e9 : n + 1 + 1 = i + 1 + 2 * (j + 1) := by have := HN.out; omega
            rw [e9] at hp9
            exact hp9
          · rw [hp9.idx, hpr.idx]; omega
      · go_wp2_with fail
        refine (accept_no bDot hpr hpx hd0).mono ?_
        rintro e w3 ⟨rfl, hg3⟩
        have hp3 := hpr.grown hg3
        have hg3' := grown_more hgr hg3
        go_wp2_with fail
        refine (accept_yes bTick hp3 hpx (by omega) ht1).mono ?_
        rintro e w4 ⟨rfl, hp4, hg4⟩
        have hg4' := grown_two hg3' hg4
        go_wp2_with fail
        refine (is_any bOpen hp4 hqx).mono ?_
        rintro e w5 ⟨rfl, hg5⟩
        rw [ho]
        have hp5 := hp4.grown hg5
        have hg5' := grown_more hg4' hg5
        go_wp2_with fail
        refine (tokk_any hp5 hqx).mono ?_
        rintro e w6 ⟨rfl, hg6⟩
        have hp6 := hp5.grown hg6
        have hg6' := grown_more hg5' hg6
        rcases hatt with hk | ⟨hk, hany⟩
        · go_wp2_with fail
          refine (next_any hp6 hqx (by omega)).mono ?_
          rintro e w9 ⟨rfl, hp9, hg9⟩
          go_wp2
          refine ⟨⟨j + 1, by omega, ?_, grown_two hg6' hg9⟩, ?_⟩
          · have e9 : n + 1 + 1 = i + 1 + 2 * (j + 1) := by have := HN.out; omega
            rw [e9] at hp9
            exact hp9
          · rw [hp9.idx, hpr.idx]; omega
        · go_wp2_with fail
          refine (isAny_any w6.heap.size 5 bAttr (hp6.grown (World.grownBy_alloc w6 _ none)) hqx (Blk.new w6 9 _) (by decide)).mono ?_
          rintro e w7 ⟨rfl, hg7⟩
          rw [hany]
          have hg7' := grown_none (World.grownBy_alloc w6 _ none) hg7
          go_wp2_with fail
          refine (next_any (hp6.grown hg7') hqx (by omega)).mono ?_
          rintro e w9 ⟨rfl, hp9, hg9⟩
          go_wp2
          refine ⟨⟨j + 1, by omega, ?_, grown_two (grown_more hg6' hg7') hg9⟩, ?_⟩
          · have e9 : n + 1 + 1 = i + 1 + 2 * (j + 1) := by have := HN.out; omega
            rw [e9] at hp9
            exact hp9
          · rw [hp9.idx, hpr.idx]; omega
    · obtain rfl : j = s.length := by omega
      go_wp2_with fail
      refine (accept_no bDot hpr hz he.dot).mono ?_
      rintro e w3 ⟨rfl, hg3⟩
      go_wp2_with fail
      refine (accept_no bTick (hpr.grown hg3) hz he.tick).mono ?_
      rintro e w4 ⟨rfl, hg4⟩
      have hg4' := grown_none hg3 hg4
      go_wp2_with fail
      refine (is_any bOpen (hpr.grown hg4') hz).mono ?_
      rintro e w5 ⟨rfl, hg5⟩
      rw [he.opn]
      go_wp2
      go_ret
      exact ⟨⟨_, rfl⟩, hpr.grown (grown_none hg4' hg5), grown_more hgr (grown_none hg4' hg5)⟩
end Go.Proofs.YbulkfhveFmtR.A
