/-
  (keyIndex).holds.
-/
import Derived.Test.YbulkfhsmCLook
import Derived.Laws.CopyOwn
import Derived.OwnWalk
namespace Go.Proofs.Ybulkfhsm.C
open Go.RowKit Go.Maps
attribute [local go_sem ↓] Go.wp_at_zero Go.wp_at_succ

theorem info21 : (Yba.prog.info? 21).map (fun i => (i.zero, i.size, i.bytes)) = some (some (.int .i32 0), 1, 4) := by kernel_rfl
theorem info25 : (Yba.prog.info? 25).map (fun i => (i.zero, i.size, i.bytes)) = some (some (.int .i32 0), 1, 4) := by kernel_rfl

theorem grown_set (w : World) (a : Addr) (v : Value) : w.grownBy (w.setCell a v) (some a.block) :=
  ⟨rfl, rfl, rfl, by simp [World.setCell], fun k _ hr => Below.heap_setCell _ _ _ _ (fun e => hr (by rw [e]))⟩

theorem Mp.kept {W W' : World} {lo : Nat} {mv : Value} {cnt : Nat} {S : Int → Bool} {row : Option Nat} (h : Mp W lo mv cnt S) (hg : W.grownBy W' row) (hr : ∀ b, row = some b → b < lo ∨ ∃ cs t z, W.heap[b]? = some (.cells cs t z)) : Mp W' lo mv cnt S := by
  rcases h with h | ⟨b, D, rfl, hb, hown, hS⟩
  · exact .inl h
  · refine .inr ⟨b, D, rfl, hb, hown.kept hg ?_, hS⟩
    intro e
    rcases hr b e.symm with h1 | ⟨cs, t, z, h1⟩
    · omega
    · obtain ⟨es, clock, h2, _⟩ := hown
      rw [h1] at h2
      cases h2

theorem row_kept {W W' : World} {lo e n : Nat} {v : Value} {xs : List Value} {row : Option Nat} (h : W.ownsRow lo e 1 v n xs) (hg : W.grownBy W' row) (hr : ∀ b, row = some b → b < lo ∨ ∃ cs t z, W.heap[b]? = some (.cells cs t z) ∧ t ≠ e) : W'.ownsRow lo e 1 v n xs := by
  refine h.kept hg ?_
  rcases h.2 with ⟨rfl, _⟩ | ⟨g, cap, cur, rfl, hl, hh, _⟩
  · exact .inl rfl
  · right
    intro e'
    simp only [Value.ownBlock] at e'
    rcases hr g e'.symm with h1 | ⟨cs, t, z, h1, h2⟩
    · omega
    · rw [h1] at hh
      cases hh
      exact h2 rfl

section
variable {W W' : World} {s nd cnt : Nat} {D : Nat → Int} {S : Int → Bool} {dh mv kh : Value} {ks : List Int}

theorem Ix.lt (h : Ix W s dh nd D mv cnt S kh ks) : s < W.heap.size := World.block_lt_of_cell? W ⟨s, 0, none⟩ h.c0

theorem Ix.ext (h : Ix W s dh nd D mv cnt S kh ks) (hg : W.grownBy W' none) : Ix W' s dh nd D mv cnt S kh ks :=
  ⟨hg.cell h.c0 (by simp), hg.cell h.c1 (by simp), hg.cell h.c2 (by simp), fun o => (World.frozen?_of_block (hg.block s h.lt (by simp))).trans (h.fz o),
    row_kept h.dn hg (by simp), row_kept h.kn hg (by simp), h.mp.kept hg (by simp)⟩

theorem Ix.setDense (h : Ix W s dh nd D mv cnt S kh ks) {dh' : Value} {nd' : Nat} {D' : Nat → Int} (hd : W.ownsRow (s + 1) 21 1 dh' nd' (rowL D' nd')) :
    Ix (W.setCell ⟨s, 0, none⟩ dh') s dh' nd' D' mv cnt S kh ks := by
  have hg := grown_set W ⟨s, 0, none⟩ dh'
  have hr : ∀ b : Nat, some s = some b → b < s + 1 := fun b e => by cases e; omega
  exact ⟨World.cell?_setCell_same _ _ _ h.c0, by rw [World.cell?_setCell_other _ _ _ _ (by simp)]; exact h.c1, by rw [World.cell?_setCell_other _ _ _ _ (by simp)]; exact h.c2,
    fun o => by rw [World.frozen?_setCell]; exact h.fz o, row_kept hd hg (fun b e => .inl (hr b e)), row_kept h.kn hg (fun b e => .inl (hr b e)), h.mp.kept hg (fun b e => .inl (hr b e))⟩

theorem Ix.setMap (h : Ix W s dh nd D mv cnt S kh ks) {mv' : Value} {cnt' : Nat} {S' : Int → Bool} (hm : Mp W (s + 1) mv' cnt' S') :
    Ix (W.setCell ⟨s, 1, none⟩ mv') s dh nd D mv' cnt' S' kh ks := by
  have hg := grown_set W ⟨s, 1, none⟩ mv'
  have hr : ∀ b : Nat, some s = some b → b < s + 1 := fun b e => by cases e; omega
  exact ⟨by rw [World.cell?_setCell_other _ _ _ _ (by simp)]; exact h.c0, World.cell?_setCell_same _ _ _ h.c1, by rw [World.cell?_setCell_other _ _ _ _ (by simp)]; exact h.c2,
    fun o => by rw [World.frozen?_setCell]; exact h.fz o, row_kept h.dn hg (fun b e => .inl (hr b e)), row_kept h.kn hg (fun b e => .inl (hr b e)), hm.kept hg (fun b e => .inl (hr b e))⟩

/-- Behind the append to keys and the store of its header. -/
theorem Ix.setKeys (h : Ix W s dh nd D mv cnt S kh ks) {kh' : Value} {ks' : List Int} (hg0 : W.grownBy W' kh.ownBlock) (hk : W'.ownsRow (s + 1) 25 1 kh' ks'.length (ks'.map (Value.int .i32))) :
    Ix (W'.setCell ⟨s, 2, none⟩ kh') s dh nd D mv cnt S kh' ks' := by
  have hr0 : ∀ b, kh.ownBlock = some b → s + 1 ≤ b ∧ ∃ cs t z, W.heap[b]? = some (.cells cs t z) ∧ t = 25 := by
    intro b hb
    rcases h.kn.2 with ⟨rfl, _⟩ | ⟨g, cap, cur, rfl, hl, hh, _⟩
    · simp [Value.ownBlock] at hb
    · simp only [Value.ownBlock, Option.some.injEq] at hb
      subst hb
      exact ⟨hl, _, _, _, hh, rfl⟩
  have hs : some s ≠ kh.ownBlock := fun e => by have := (hr0 s e.symm).1; omega
  have hg := grown_set W' ⟨s, 2, none⟩ kh'
  have hr : ∀ b : Nat, some s = some b → b < s + 1 := fun b e => by cases e; omega
  have hd := row_kept h.dn hg0 (fun b e => .inr (by obtain ⟨_, cs, t, z, h1, h2⟩ := hr0 b e; exact ⟨cs, t, z, h1, by rw [h2]; decide⟩))
  have hm := h.mp.kept hg0 (fun b e => .inr (by obtain ⟨_, cs, t, z, h1, h2⟩ := hr0 b e; exact ⟨cs, t, z, h1⟩))
  have c2 := hg0.cell h.c2 hs
  exact ⟨by rw [World.cell?_setCell_other _ _ _ _ (by simp)]; exact hg0.cell h.c0 hs, by rw [World.cell?_setCell_other _ _ _ _ (by simp)]; exact hg0.cell h.c1 hs, World.cell?_setCell_same _ _ _ c2,
    fun o => by rw [World.frozen?_setCell]; exact (World.frozen?_of_block (hg0.block s h.lt hs)).trans (h.fz o), row_kept hd hg (fun b e => .inl (hr b e)), row_kept hk hg (fun b e => .inl (hr b e)), hm.kept hg (fun b e => .inl (hr b e))⟩
end

theorem full_row {W : World} {lo e g n : Nat} {xs : List Value} (h : W.ownsRow lo e 1 (.slice (some ⟨g, 0, none⟩) n n) n xs) : W.heap[g]? = some (.cells xs.toArray e (0, 0)) := by
  rcases h.2 with ⟨h1, _⟩ | ⟨g', cap, cur, h1, _, hh, _, _, hs, ht⟩
  · cases h1
  · cases h1
    rw [hh]
    congr 2
    rw [← ht, List.take_of_length_le (by simp [hs])]

theorem size21 : (Yba.prog.info? 21).map (·.size) = some 1 := by kernel_rfl
theorem made_row {W : World} {lo g n : Nat} (h : W.ownsRow lo 21 1 (.slice (some ⟨g, 0, none⟩) n n) n (madeCells (Value.int .i32 0).cells (n * 1)).toList) : W.heap[g]? = some (.cells (List.replicate n (.int .i32 0)).toArray 21 (0, 0)) := by
  rw [show (Value.int .i32 0).cells = #[Value.int .i32 0] from rfl, Nat.mul_one, toList_madeCells_one] at h
  exact full_row h

/-- The slice behind its growth. -/
def grown (nd : Nat) (D : Nat → Int) : Nat → Int := fun j => if j < nd then D j else 0

theorem rowL_zero (n : Nat) : rowL (fun _ => 0) n = List.replicate n (.int .i32 0) := by
  induction n with
  | zero => rfl
  | succ n ih => simp only [rowL, ih, List.replicate_succ']

theorem grown_row {nd n : Nat} (D : Nat → Int) (h : nd ≤ n) : splice (List.replicate n (.int .i32 0)) 0 (rowL D nd) = rowL (grown nd D) n := by
  unfold splice
  simp only [List.take_zero, List.nil_append, rowL_len, Nat.zero_add, List.drop_replicate]
  obtain ⟨k, rfl⟩ : ∃ k, n = nd + k := ⟨n - nd, by omega⟩
  induction k with
  | zero => simp; exact rowL_congr fun j hj => by simp [grown, hj]
  | succ k ih =>
    have := ih (by omega)
    rw [show nd + (k + 1) = (nd + k) + 1 by omega, rowL, ← this, show nd + k + 1 - nd = (nd + k - nd) + 1 by omega, List.replicate_succ']
    simp [grown]
    omega

theorem one_rowL (d : Nat → Int) (n : Nat) : ∀ v ∈ rowL d n, v.oneCell' = true := by
  induction n with
  | zero => simp [rowL]
  | succ n ih =>
    intro v hv
    simp only [rowL, List.mem_append, List.mem_singleton] at hv
    rcases hv with hv | rfl
    · exact ih v hv
    · rfl

def room (nd x len : Nat) : Nat := min (max (2 * nd) (x + 1)) (4 * len + 1024)

/-- What holds leaves. -/
def Held (w : World) (s nd : Nat) (D : Nat → Int) (mv : Value) (cnt : Nat) (S : Int → Bool) (kh : Value) (ks : List Int) (x : Int) (e : Ending) (w' : World) : Prop :=
  ∃ t, e = .returned (.bool t) ∧ ∃ dh' nd', Ix w' s dh' nd' (grown nd D) mv cnt S kh ks ∧ nd ≤ nd' ∧ nd' ≤ 4 * ks.length + 1024 ∧ (t = true → 0 ≤ x ∧ x.toNat < nd') ∧ Below s w w'

theorem held_stay {w : World} {s nd cnt : Nat} {D : Nat → Int} {S : Int → Bool} {dh mv kh : Value} {ks : List Int} {x : Int} (h : Ix w s dh nd D mv cnt S kh ks) (hnd : nd ≤ 4 * ks.length + 1024) (t : Bool) (ht : t = true → 0 ≤ x ∧ x.toNat < nd) :
    Held w s nd D mv cnt S kh ks x (.returned (.bool t)) w := by
  refine ⟨t, rfl, dh, nd, ⟨h.c0, h.c1, h.c2, h.fz, ?_, h.kn, h.mp⟩, Nat.le_refl _, hnd, ht, Below.refl _ _⟩
  rw [rowL_congr (d' := D) (fun j hj => by simp [grown, hj])]
  exact h.dn

theorem held_grown {w w1 w2 : World} {s nd cnt n : Nat} {D : Nat → Int} {S : Int → Bool} {dh mv kh : Value} {ks : List Int} {y : Nat} (h : Ix w s dh nd D mv cnt S kh ks) (hg1 : w.grownBy w1 none) (hB : Below w.heap.size w1 w2)
    (hr : w2.heap[w.heap.size]? = some (.cells (splice (List.replicate n (.int .i32 0)) 0 (rowL D nd)).toArray 21 (0, 0))) (h1 : nd ≤ n) (h2 : n ≤ 4 * ks.length + 1024) (h3 : y < n) (h4 : ks.length ≤ 16384) :
    Held w s nd D mv cnt S kh ks (y : Int) (.returned (.bool true)) (w2.setCell ⟨s, 0, none⟩ (.slice (some ⟨w.heap.size, 0, none⟩) n n)) := by
  rw [grown_row D h1] at hr
  have hg : w.grownBy w2 none := ⟨hB.os.trans hg1.os, hB.tape.trans hg1.tape, hB.output.trans hg1.output, Nat.le_trans hg1.size hB.size, fun k hk _ => (hB.block k hk).trans (hg1.block k hk (by simp))⟩
  have hs := h.lt
  have hd : w2.ownsRow (s + 1) 21 1 (.slice (some ⟨w.heap.size, 0, none⟩) n n) n (rowL (grown nd D) n) :=
    ⟨by rw [rowL_len]; omega, .inr ⟨w.heap.size, n, _, rfl, by omega, hr, Nat.le_refl _, by simp only [maxLen]; omega, by simp [rowL_len], by simp [rowL_len, List.take_of_length_le]⟩⟩
  refine ⟨true, rfl, _, n, (h.ext hg).setDense hd, h1, h2, fun _ => ⟨by omega, by simpa using h3⟩, ?_⟩
  exact (Below.grown (Below.refl s w) hg (by omega) (by simp)).setCell (by simp) _

theorem src_row {w w1 : World} {s nd cnt cap : Nat} {D : Nat → Int} {S : Int → Bool} {mv kh : Value} {ks : List Int} {a : Option Addr} {C : List Value} (h : Ix w s (.slice a nd cap) nd D mv cnt S kh ks) (h0 : 0 < nd) (hb : ∀ k, k < w.heap.size → w1.heap[k]? = w.heap[k]?) (hC : C = rowL D nd) :
    ∃ ad, a = some ad ∧ ∀ j v, C[j]? = some v → w1.cell? (ad.add j) = some v := by
  obtain ⟨g, cap', e, hg⟩ := row_form h.dn h0
  cases e
  refine ⟨_, rfl, fun j v hv => ?_⟩
  have hadd : (⟨g, 0, none⟩ : Addr).add j = ⟨g, j, none⟩ := by unfold Addr.add; split <;> simp_all
  have := h.dn.cells rfl j v (by rw [← hC]; exact hv)
  rw [hadd] at this ⊢
  rw [World.cell?_of_block (a := ⟨g, j, none⟩) (hb g (h.dn.lt g rfl).2)]
  exact this

set_option maxRecDepth 100000 in
set_option maxHeartbeats 2000000 in
theorem holds_any {w : World} {s nd cnt : Nat} {D : Nat → Int} {S : Int → Bool} {dh mv kh : Value} {ks : List Int} (h : Ix w s dh nd D mv cnt S kh ks) {x : Int} (hw : wf32 x) (hnd : nd ≤ 4 * ks.length + 1024) (hk : ks.length ≤ 16384) :
    Calls Yba.prog 33 #[.pointer (some ⟨s, 0, none⟩), .int .i32 x] w (Held w s nd D mv cnt S kh ks x) := by
  have c0 := h.c0
  have c2 := h.c2
  have fz := h.fz
  obtain ⟨da, dcap, rfl⟩ := slice_form h.dn
  obtain ⟨ka, kcap, rfl⟩ := slice_form h.kn
  by_cases h0 : x < 0
  · go_enter Yba.func33, Yba.ntmps33
    go_wp2
    go_ret
    exact held_stay h hnd false (by simp)
  · have h0' : ¬ x < 0 := h0
    obtain ⟨y, rfl⟩ : ∃ y : Nat, x = (y : Int) := ⟨x.toNat, by omega⟩
    have y2 : (y : Int) ≤ 2147483647 := hw.2
    have y4 : (nd : Int) ≤ 66560 := by omega
    have y5 : (ks.length : Int) ≤ 16384 := by omega
    clear h0
    by_cases h1 : y < nd
    · have h1' : (y : Int) < (nd : Int) := by omega
      go_enter Yba.func33, Yba.ntmps33
      go_wp2
      go_ret
      exact held_stay h hnd true (fun _ => ⟨by omega, by simpa using h1⟩)
    · have h1' : ¬ (y : Int) < (nd : Int) := by omega
      by_cases h2 : 4 * ks.length + 1024 ≤ y
      · have h2' : 4 * (ks.length : Int) + 1024 ≤ (y : Int) := by omega
        go_enter Yba.func33, Yba.ntmps33
        go_wp2
        go_ret
        exact held_stay h hnd false (by simp)
      · have h2' : ¬ 4 * (ks.length : Int) + 1024 ≤ (y : Int) := by omega
        obtain ⟨i, hi, hz0, hz1, hz2⟩ := info_parts info21
        have hs := h.lt
        have h' := h
        go_enter Yba.func33, Yba.ntmps33
        obtain ⟨n, en⟩ : ∃ n, n = room nd y ks.length := ⟨_, rfl⟩
        have n1 : nd ≤ n := by rw [en]; unfold room; omega
        have n2 : n ≤ 4 * ks.length + 1024 := by rw [en]; unfold room; omega
        have n3 : y < n := by rw [en]; unfold room; omega
        have EN := hide en
        clear en
        go_upto_region 8 with (fail)
        go_cut [6] from 30 to 53 (fun v W => v = .slice (some ⟨w.heap.size, 0, none⟩) n n ∧ w.grownBy W none ∧ W.heap[w.heap.size]? = some (.cells (List.replicate n (.int .i32 0)).toArray 21 (0, 0)))
        case first =>
          go_wp2_with (at_make; refine wpList_make_full _ rfl _ _ 23 rfl (s + 1) 21 i _ 1 Yba.underlying23 hi hz0 hz1 .i64 .i64 _ _ n rfl rfl (by rw [EN.out]; unfold room; (repeat' split) <;> omega) (by rw [EN.out]; unfold room; (repeat' split) <;> omega) (by rw [hz2]; omega) (by unfold maxLen; omega) (by omega) ?_; intro w1 hown1 hg1; have HR := hide (made_row hown1); clear hown1)
          all_goals
            go_meet
            case rel => exact ⟨rfl, hg1, HR.out⟩
        case rest =>
        obtain ⟨rfl, hg1, HR⟩ := hcut
        have k0 := hg1.cell c0 (by simp)
        have kf : ∀ o, wc.frozen? ⟨s, o, none⟩ = false := (fun o => (World.frozen?_of_block (hg1.block s hs (by simp))).trans (fz o))
        obtain ⟨C, eC⟩ : ∃ C, C = rowL D nd := ⟨_, rfl⟩
        have C1 : C.length = nd := by rw [eC, rowL_len]
        have EC := hide eC
        have HR1 := hide HR
        clear eC HR
        have X1 := hide (Nat.min_eq_left n1).symm
        go_wp2_with (refine wpList_copy_splice rfl _ _ 23 23 rfl 21 Yba.underlying23 size21 _ _ _ _ _ _ rfl rfl w.heap.size 0 (List.replicate n (.int .i32 0)) 21 HR1.out C (by rw [C1]; exact X1.out) (by rw [C1]; intro h0; exact ⟨rfl, src_row h' h0 (fun k hk => hg1.block k hk (by simp)) EC.out⟩) (by simp only [C1, List.length_replicate]; omega) (by rw [EC.out]; exact one_rowL D nd) w.heap.size wc (Below.refl _ _) (Nat.le_refl _) ?_; intro w2 HG2 hB2; have k2 := (World.cell?_of_block (a := ⟨s, 0, none⟩) (hB2.block s hs)).trans k0; have kf2 : ∀ o, w2.frozen? ⟨s, o, none⟩ = false := (fun o => (World.frozen?_of_block (hB2.block s hs)).trans (kf o)))
        go_ret
        exact held_grown h' hg1 hB2 (by rw [← EC.out]; exact HG2.out) n1 n2 n3 hk
end Go.Proofs.Ybulkfhsm.C
