/-
  (History).Transactions.
-/
import Derived.Test.YbulkfhsmCNumber
import Derived.Test.YbulkfhsmCSort
namespace Go.Proofs.Ybulkfhsm.C
open Go.RowKit Go.Maps
attribute [local go_sem ↓] Go.wp_at_zero Go.wp_at_succ

structure Opn where
  kind : Int
  txn : Int
  obj : ByteArray

/-- The history: three cells an operation. -/
structure Hist (w : World) (a : Option Addr) (len : Nat) (A : Nat → Opn) : Prop where
  form : 0 < len → ∃ b off, a = some ⟨b, off, none⟩
  ck : ∀ b off, a = some ⟨b, off, none⟩ → ∀ i, i < len → w.cell? ⟨b, off + i * 3, none⟩ = some (.int .u8 (A i).kind)
  ct : ∀ b off, a = some ⟨b, off, none⟩ → ∀ i, i < len → w.cell? ⟨b, off + i * 3 + 1, none⟩ = some (.int .i32 (A i).txn)
  co : ∀ b off, a = some ⟨b, off, none⟩ → ∀ i, i < len → w.cell? ⟨b, off + i * 3 + 2, none⟩ = some (.string (A i).obj)
  wf : ∀ i, i < len → wf32 (A i).txn

theorem Hist.below {w w' : World} {a : Option Addr} {len : Nat} {A : Nat → Opn} (h : Hist w a len A) (hb : Below w.heap.size w w') : Hist w' a len A := by
  refine ⟨h.form, fun b off e i hi => ?_, fun b off e i hi => ?_, fun b off e i hi => ?_, h.wf⟩
  · have := h.ck b off e i hi; rw [World.cell?_of_block (hb.block b (World.block_lt_of_cell? _ _ this))]; exact this
  · have := h.ct b off e i hi; rw [World.cell?_of_block (hb.block b (World.block_lt_of_cell? _ _ this))]; exact this
  · have := h.co b off e i hi; rw [World.cell?_of_block (hb.block b (World.block_lt_of_cell? _ _ this))]; exact this

theorem St.ext {W W' : World} {s : Nat} {ks : List Int} (h : St W s ks) (hg : W.grownBy W' none) : St W' s ks := by
  obtain ⟨dh, nd, D, mv, cnt, S, kh, hI, r⟩ := h
  exact ⟨dh, nd, D, mv, cnt, S, kh, hI.ext hg, r⟩

theorem St.lt {W : World} {s : Nat} {ks : List Int} (h : St W s ks) : s < W.heap.size := by
  obtain ⟨dh, nd, D, mv, cnt, S, kh, hI, r⟩ := h
  exact hI.lt

theorem st_start (w : World) : St (w.alloc (.cells #[.slice none 0 0, .map none, .slice none 0 0] 87)) w.heap.size [] := by
  refine ⟨.slice none 0 0, 0, fun _ => 0, .map none, 0, fun _ => false, .slice none 0 0, ⟨?_, ?_, ?_, ?_, World.ownsRow_nil _ _ _ _, World.ownsRow_nil _ _ _ _, .inl ⟨rfl, fun _ => rfl⟩⟩, by simp, by simp, by simp, fun _ => rfl, ?_⟩
  · simp
  · simp
  · simp
  · intro o; exact World.frozen?_alloc_new _ _ _ _
  · intro x _; simp [InD]

/-- The distinct transactions of the first i operations. -/
def Upto (A : Nat → Opn) (i : Nat) (ks : List Int) : Prop := ks.length ≤ i ∧ ∀ x, x ∈ ks ↔ ∃ j, j < i ∧ (A j).txn = x

theorem Upto.step {A : Nat → Opn} {i : Nat} {ks : List Int} (h : Upto A i ks) : Upto A (i + 1) (adding ks (A i).txn) := by
  unfold adding
  refine ⟨?_, fun x => ?_⟩
  · have := h.1; split <;> simp <;> omega
  · have e : (∃ j, j < i + 1 ∧ (A j).txn = x) ↔ (∃ j, j < i ∧ (A j).txn = x) ∨ (A i).txn = x := by
      constructor
      · rintro ⟨j, h1, h2⟩
        by_cases hj : j < i
        · exact .inl ⟨j, hj, h2⟩
        · obtain rfl : j = i := by omega
          exact .inr h2
      · rintro (⟨j, h1, h2⟩ | h2)
        · exact ⟨j, by omega, h2⟩
        · exact ⟨i, by omega, h2⟩
    rw [e, ← h.2 x]
    split
    · rename_i hm
      constructor
      · exact .inl
      · rintro (h1 | rfl)
        · exact h1
        · exact hm
    · simp [eq_comm]

/-- What Transactions hands back: strictly ascending, the transactions of the history. -/
def Trans (w : World) (len : Nat) (A : Nat → Opn) (e : Ending) (w' : World) : Prop :=
  ∃ v n d, e = .returned v ∧ w'.ownsRow w.heap.size 25 1 v n (rowL d n) ∧ (∀ i j, i < j → j < n → d i < d j) ∧ (∀ x, (∃ i, i < n ∧ d i = x) ↔ ∃ j, j < len ∧ (A j).txn = x) ∧ (n = 0 → v = .slice none 0 0) ∧ Below w.heap.size w w' ∧ n ≤ len

theorem swaps_mem {n : Nat} {d e : Nat → Int} (h : Swaps 0 n d e) (x : Int) : (∃ i, i < n ∧ e i = x) ↔ ∃ i, i < n ∧ d i = x := by
  refine h (fun f => (∃ i, i < n ∧ f i = x) ↔ ∃ i, i < n ∧ d i = x) Iff.rfl fun f i j _ h2 _ h4 hf => ?_
  rw [← hf]
  constructor
  · rintro ⟨k, k1, k2⟩
    by_cases e1 : k = j
    · subst e1; rw [swp_right] at k2; exact ⟨i, h2, k2⟩
    · by_cases e2 : k = i
      · subst e2; rw [swp_left] at k2; exact ⟨j, h4, k2⟩
      · rw [swp_other f e2 e1] at k2; exact ⟨k, k1, k2⟩
  · rintro ⟨k, k1, k2⟩
    by_cases e1 : k = j
    · subst e1; exact ⟨i, h2, by rw [swp_left]; exact k2⟩
    · by_cases e2 : k = i
      · subst e2; exact ⟨j, h4, by rw [swp_right]; exact k2⟩
      · exact ⟨k, k1, by rw [swp_other f e2 e1]; exact k2⟩

theorem swaps_inj {n : Nat} {d e : Nat → Int} (h : Swaps 0 n d e) (hd : ∀ i j, i < n → j < n → d i = d j → i = j) : ∀ i j, i < n → j < n → e i = e j → i = j := by
  refine h (fun f => ∀ i j, i < n → j < n → f i = f j → i = j) hd fun f i j _ h2 _ h4 hf p q hp hq he => ?_
  by_cases p1 : p = j
  · subst p1
    by_cases q1 : q = p
    · exact q1.symm
    · by_cases q2 : q = i
      · subst q2; rw [swp_right, swp_left] at he; exact (hf _ _ hq hp he).symm
      · rw [swp_right, swp_other f q2 q1] at he; have := hf _ _ h2 hq he; omega
  · by_cases p2 : p = i
    · subst p2
      by_cases q1 : q = j
      · subst q1; rw [swp_left, swp_right] at he; exact (hf _ _ hq hp he).symm
      · by_cases q2 : q = p
        · exact q2.symm
        · rw [swp_left, swp_other f q2 q1] at he; have := hf _ _ h4 hq he; omega
    · by_cases q1 : q = j
      · subst q1; rw [swp_other f p2 p1, swp_right] at he; have := hf _ _ hp h2 he; omega
      · by_cases q2 : q = i
        · subst q2; rw [swp_other f p2 p1, swp_left] at he; have := hf _ _ hp h4 he; omega
        · rw [swp_other f p2 p1, swp_other f q2 q1] at he; exact hf _ _ hp hq he

theorem list_rowL (ks : List Int) : ks.map (Value.int .i32) = rowL (fun i => ks.getD i 0) ks.length := by
  apply List.ext_getElem?
  intro i
  by_cases hi : i < ks.length
  · rw [rowL_get _ hi]; simp [hi]
  · rw [List.getElem?_eq_none (by simp; omega), List.getElem?_eq_none (by rw [rowL_len]; omega)]

theorem mem_getD (ks : List Int) (x : Int) : (∃ i, i < ks.length ∧ ks.getD i 0 = x) ↔ x ∈ ks := by
  rw [List.mem_iff_getElem]
  constructor
  · rintro ⟨i, h1, h2⟩; exact ⟨i, h1, by simpa [h1] using h2⟩
  · rintro ⟨i, h1, h2⟩; exact ⟨i, h1, by simpa [h1] using h2⟩

theorem nodup_getD {ks : List Int} (h : ks.Nodup) : ∀ i j, i < ks.length → j < ks.length → ks.getD i 0 = ks.getD j 0 → i = j := by
  intro i j hi hj he
  simp [hi, hj] at he
  exact (List.getElem_inj h).1 he

set_option maxRecDepth 100000 in
set_option maxHeartbeats 4000000 in
theorem trans_any {w : World} {a : Option Addr} {len cap : Nat} {A : Nat → Opn} (h : Hist w a len A) (hl : len ≤ 16384) :
    Calls Yba.prog 19 #[.slice a len cap] w (Trans w len A) := by
  have l1 : (len : Int) ≤ 16384 := by omega
  have l0 : (0 : Int) ≤ (len : Int) := by omega
  go_enter Yba.func19, Yba.ntmps19
  go_wp2_with fail
  have hSt := st_start w
  have hB0 : Below w.heap.size w (w.alloc (.cells #[.slice none 0 0, .map none, .slice none 0 0] 87)) := (Below.refl _ w).alloc (Nat.le_refl _) _
  generalize (w.alloc (.cells #[.slice none 0 0, .map none, .slice none 0 0] 87)) = w1 at hSt hB0 ⊢
  obtain ⟨s, es⟩ : ∃ s, s = w.heap.size := ⟨_, rfl⟩
  rw [← es] at hSt hB0 ⊢
  have ES := hide es
  clear es
  go_loopw [8] (fun x W => ∃ (i : Nat) (ks : List Int), x = .int .i64 (i : Int) ∧ i ≤ len ∧ St W s ks ∧ Upto A i ks ∧ Below s w W) (fun x _ => len - (intOf x).toNat)
  case atStart => exact ⟨0, [], rfl, by omega, hSt, ⟨by simp, fun x => by simp⟩, hB0⟩
  case round =>
    clear hSt hB0
    obtain ⟨i, ks, rfl, hi, hSt, hU, hB⟩ := hrel
    have HU := hide hU
    clear hU
    by_cases hlt : i < len
    · obtain ⟨b, off, rfl⟩ := h.form (by omega)
      have h2 := h.below (w' := wr) (by rw [← ES.out]; exact hB)
      have q0 := h2.ck b off rfl i hlt
      have q1 := h2.ct b off rfl i hlt
      have q2 := h2.co b off rfl i hlt
      have hwf := h2.wf i hlt
      have i1 : (i : Int) < (len : Int) := by omega
      have i0 : (0 : Int) ≤ (i : Int) := by omega
      clear h2
      have k1 := HU.out.1
      go_wp2_with fail
      refine (number_any (hSt.ext (World.grownBy_alloc wr _ none)) hwf (by omega)).mono ?_
      rintro e w2 ⟨⟨k, rfl⟩, hSt2, hB2⟩
      go_wp2
      exact ⟨⟨i + 1, _, by go_num, by omega, hSt2, HU.out.step, (hB.alloc (Nat.le_of_lt hSt.lt) _).trans hB2⟩, by simp [intOf]; omega⟩
    · have i1 : ¬ (i : Int) < (len : Int) := by omega
      obtain rfl : i = len := by omega
      obtain ⟨dh, nd, D, mv, cnt, S, kh, hI, _, _, hN, hE, _⟩ := hSt
      have c2 := hI.c2
      have hs := hI.lt
      have HN := hide hN
      have HE := hide hE
      clear hN hE hlt
      by_cases hks : ks = []
      · subst hks
        obtain rfl := HE.out rfl
        go_wp2_with fail
        refine (sort_nil _).mono ?_
        rintro e w2 ⟨rfl, ew⟩
        obtain rfl := ew.symm
        go_wp2
        go_ret
        refine ⟨_, 0, fun _ => 0, rfl, World.ownsRow_nil _ _ _ _, by omega, fun x => ?_, fun _ => rfl, by rw [← ES.out]; exact hB, by omega⟩
        rw [← HU.out.2 x]
        simp
      · have hk0 : 0 < ks.length := List.length_pos_iff.2 hks
        have hk1 := HU.out.1
        obtain ⟨g, cap', rfl, hg⟩ := row_form hI.kn hk0
        have hR : Rw wr (s + 1) g ks.length cap' (fun i => ks.getD i 0) := by
          have := hI.kn
          rw [list_rowL] at this
          exact this
        clear HE hks
        have HR := hide hR
        clear hR
        go_wp2_with fail
        refine (sort_any HR.out (by omega)).mono ?_
        rintro e w2 ⟨rfl, d', hN2, hS2, hSo⟩
        have c3 : w2.cell? ⟨s, 2, none⟩ = some (.slice (some ⟨g, 0, none⟩) ks.length cap') := hN2.2.cell c2 (by simp; omega)
        have HD := hide hN2
        have HSW := hide hS2
        have HSO := hide hSo
        clear hN2 hS2 hSo
        go_wp2
        go_ret
        have inj := swaps_inj HSW.out (nodup_getD HN.out)
        have hown := HD.out.1
        refine ⟨_, ks.length, d', rfl, ?_, fun p q hpq hq => ?_, fun x => ?_, by omega, ?_, hk1⟩
        · rw [← ES.out]
          refine ⟨hown.1, ?_⟩
          rcases hown.2 with ⟨h1, _⟩ | ⟨g', cap2, cur, h1, h2, h3⟩
          · cases h1
          · cases h1; exact .inr ⟨g, cap', cur, rfl, by omega, h3⟩
        · have h1 := HSO.out p q (Nat.zero_le _) hpq hq
          rcases Int.lt_or_eq_of_le h1 with h2 | h2
          · exact h2
          · have := inj p q (by omega) hq h2; omega
        · rw [swaps_mem HSW.out, mem_getD, HU.out.2]
        · rw [← ES.out]
          exact hB.grown HD.out.2 (by omega) (fun k e => by cases e; omega)
end Go.Proofs.Ybulkfhsm.C
