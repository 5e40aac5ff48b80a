/-
  The state between the statements of a round.
-/
import Derived.Test.YbulkfhsmBLaw0
namespace Go.Proofs.Ybulkfhsm.B
open Go.RowKit
attribute [local go_sem ↓] Go.wp_at_zero Go.wp_at_succ

/-- Between the statements of a round: the memory holds mp, mx; the trees are at mp', mx' already. -/
def St (w W : World) (base : Nat) (hdr : Value) (n : Nat) (vp vx : Nat → Value) (mp : Nat → List Int) (mx : Nat → List Bool) (mp' : Nat → List Int) (mx' : Nat → List Bool) (N : Nat) (op pl tx nm : Int) (ex : Bool) : Prop :=
  ∃ (ns : Nat → Nd) (fr : Int) (t : Nat → Int) (l : Nat → List Nat) (fl : List Nat), Mem w W base hdr n ns fr t vp vx mp mx ∧ SemL n ns fr t mp' mx' l fl ∧ Sb W N base hdr vp vx op pl tx nm ex

theorem info2 : (Yba.prog.info? 2).map (fun i => (i.zero, i.size, i.bytes)) = some (some (.int .i64 0), 1, 8) := by kernel_rfl
theorem info4 : (Yba.prog.info? 4).map (fun i => (i.zero, i.size, i.bytes)) = some (some (.bool false), 1, 1) := by kernel_rfl

theorem wrap_small (x : Int) (h0 : 0 ≤ x) (h1 : x ≤ 9223372036854775807) : IntKind.i64.wrap x = x := by
  simp only [IntKind.wrap, IntKind.signed, IntKind.bits]
  simp
  omega

/-- What 'remove' leaves. -/
def Removed (base s rb k n : Nat) (hdr : Value) (w : World) (ns : Nat → Nd) (fr : Int) (la : List Nat) (v : Nat) (lb : List Nat) (w' : World) : Prop :=
  ∃ (ns' : Nat → Nd) (r : Int) (f' : Nat), Pool w' base s hdr n ns' ∧ G n ns' ∧ T n ns' f' r (la ++ lb) ∧ (ns' v).left = fr ∧ Chg (la ++ v :: lb) ns ns' ∧
        Kept (fun b => hdr.ownBlock = some b ∨ b = s ∨ b = rb) w w' ∧ w'.cell? ⟨s, 1, none⟩ = some (.int .i32 v) ∧ w'.cell? ⟨s, 2, none⟩ = w.cell? ⟨s, 2, none⟩ ∧
        (∀ o, o ≠ k → w'.cell? ⟨rb, o, none⟩ = w.cell? ⟨rb, o, none⟩) ∧ w'.cell? ⟨rb, k, none⟩ = some (.int .i32 r) ∧ (∀ o, w'.frozen? ⟨s, o, none⟩ = false) ∧ (∀ o, w'.frozen? ⟨rb, o, none⟩ = false)

section
variable {w W : World} {base n N : Nat} {hdr : Value} {ns : Nat → Nd} {fr : Int} {t : Nat → Int} {vp vx : Nat → Value} {mp : Nat → List Int} {mx : Nat → List Bool} {l : Nat → List Nat} {fl : List Nat} {op pl tx nm : Int} {ex : Bool}

theorem mem_remove (hM : Mem w W base hdr n ns fr t vp vx mp mx) (hS : SemL n ns fr t mp mx l fl) {k j : Nat} (hk : k < 2) (hj : j < (mp k).length) (hj' : j < (mx k).length) {la lb : List Nat} {v : Nat} (hl : l k = la ++ v :: lb) (hv : pe ns v = ((mp k)[j], (mx k)[j])) :
    Calls Yba.prog 14 #[.pointer (some ⟨base + 1, 0, none⟩), .pointer (some ⟨base + 2, k, none⟩), .int .i64 (ns v).place] W fun e w' => e = .returned (.tuple #[]) ∧ Removed (base + 5) (base + 1) (base + 2) k n hdr W ns fr la v lb w' := by
  obtain ⟨f, hT⟩ := hS.tree k hk
  have hN := hS.lnd hk
  have hSo := hS.sorted k hk
  rw [hl] at hT hN hSo
  have hp : (ns v).place = (mp k)[j] := by have := congrArg Prod.fst hv; exact this
  have hr := hS.rng k hk ((mp k)[j]) (List.getElem_mem _)
  have hB := hM.rowBound
  exact remove_any hM.pool hS.good hT hN hSo (by omega) (by omega) (by omega) (fun e => by have := (hB 0 (by omega) _ e).1; omega) hM.free (hM.root k hk) (hM.frz _ (by omega) (by omega)) (hM.frz _ (by omega) (by omega))

theorem st_removed (hM : Mem w W base hdr n ns fr t vp vx mp mx) (hS : SemL n ns fr t mp mx l fl) (sb : Sb W N base hdr vp vx op pl tx nm ex) {k j : Nat} (hk : k < 2) (hj : j < (mp k).length) (hj' : j < (mx k).length) {la lb : List Nat} {v : Nat} (hl : l k = la ++ v :: lb) (hv : pe ns v = ((mp k)[j], (mx k)[j]))
    {W' : World} (hR : Removed (base + 5) (base + 1) (base + 2) k n hdr W ns fr la v lb W') :
    St w W' base hdr n vp vx mp mx (putAt mp k ((mp k).eraseIdx j)) (putAt mx k ((mx k).eraseIdx j)) N op pl tx nm ex := by
  obtain ⟨ns', r, f', hP', hG', hT', hvl, hC', hK', hf', hr', ho', hR', z1, z2⟩ := hR
  obtain ⟨q, hq⟩ := hM.rng
  have far := sb.far
  refine ⟨ns', v, putAt t k r, putAt l k (la ++ lb), v :: fl, hM.pooled hk hP' hK' hf' ⟨q, hr'.trans hq⟩ ho' hR' z1 z2 (.inl rfl), hS.removed hk hj hj' hl hv hG' hT' hvl hC', sb.kept hK' ?_ sb.rows⟩
  rintro (e | e | e)
  · exact sb.rows 0 (by omega) N e rfl
  · omega
  · omega

theorem rows_put {i : Nat} {v : Value} (hi : i < 5) {N z : Nat} (hr : ∀ j, j < 5 → ∀ g, (rowOf hdr vp vx j).ownBlock = some g → g ≠ N) (hz : N < z)
    (hl : v.ownBlock = (rowOf hdr vp vx i).ownBlock ∨ ∃ g, v.ownBlock = some g ∧ z ≤ g) : ∀ j, j < 5 → ∀ g, (putAt (rowOf hdr vp vx) i v j).ownBlock = some g → g ≠ N := by
  intro j hj g hg
  by_cases e : j = i
  · subst e
    rw [putAt_same] at hg
    rcases hl with hl | ⟨g', hl, hz'⟩
    · rw [hl] at hg; exact hr j hj g hg
    · rw [hl] at hg; obtain rfl := Option.some.inj hg; omega
  · rw [putAt_other _ _ e] at hg; exact hr j hj g hg

theorem st_placed {mp' : Nat → List Int} {mx' : Nat → List Bool} (hM : Mem w W base hdr n ns fr t vp vx mp mx) (hS : SemL n ns fr t mp' mx' l fl) (sb : Sb W N base hdr vp vx op pl tx nm ex) {k : Nat} (hk : k < 2) {W3 : World} {v : Value} {xs : List Int}
    (hg : W.grownBy W3 (vp k).ownBlock) (own : W3.ownsRow (base + 5) 2 1 v xs.length (xs.map (Value.int .i64))) (hl : v.ownBlock = (vp k).ownBlock ∨ ∃ g, v.ownBlock = some g ∧ W.heap.size ≤ g) :
    St w (W3.setCell ⟨base + 3, k, none⟩ v) base hdr n (putAt vp k v) vx (putAt mp k xs) mx mp' mx' N op pl tx nm ex := by
  have far := sb.far
  have ek : rowOf hdr vp vx (1 + k) = vp k := by rcases (show k = 0 ∨ k = 1 by omega) with rfl | rfl <;> rfl
  have q : ∀ j, j < 5 → rowOf hdr (putAt vp k v) vx j = putAt (rowOf hdr vp vx) (1 + k) v j := fun j hj => by
    rcases (show k = 0 ∨ k = 1 by omega) with rfl | rfl <;> rcases (show j = 0 ∨ j = 1 ∨ j = 2 ∨ j = 3 ∨ j = 4 by omega) with rfl | rfl | rfl | rfl | rfl <;> rfl
  refine ⟨ns, fr, t, l, fl, hM.placed hk hg own hl, hS, sb.kept ((Kept.grown hg fun b e => .inl e).trans (Kept.setCell (X := fun b => (vp k).ownBlock = some b ∨ b = base + 3) _ _ _ (.inr rfl))) ?_ ?_⟩
  · rintro (e | e)
    · exact sb.rows (1 + k) (by omega) N (by rw [ek]; exact e) rfl
    · omega
  · intro j hj g hg
    rw [q j hj] at hg
    exact rows_put (by omega) sb.rows sb.lt (by rw [ek]; exact hl) j hj g hg

theorem st_marked {mp' : Nat → List Int} {mx' : Nat → List Bool} (hM : Mem w W base hdr n ns fr t vp vx mp mx) (hS : SemL n ns fr t mp' mx' l fl) (sb : Sb W N base hdr vp vx op pl tx nm ex) {k : Nat} (hk : k < 2) {W3 : World} {v : Value} {xs : List Bool}
    (hg : W.grownBy W3 (vx k).ownBlock) (own : W3.ownsRow (base + 5) 4 1 v xs.length (xs.map Value.bool)) (hl : v.ownBlock = (vx k).ownBlock ∨ ∃ g, v.ownBlock = some g ∧ W.heap.size ≤ g) :
    St w (W3.setCell ⟨base + 4, k, none⟩ v) base hdr n vp (putAt vx k v) mp (putAt mx k xs) mp' mx' N op pl tx nm ex := by
  have far := sb.far
  have ek : rowOf hdr vp vx (3 + k) = vx k := by rcases (show k = 0 ∨ k = 1 by omega) with rfl | rfl <;> rfl
  have q : ∀ j, j < 5 → rowOf hdr vp (putAt vx k v) j = putAt (rowOf hdr vp vx) (3 + k) v j := fun j hj => by
    rcases (show k = 0 ∨ k = 1 by omega) with rfl | rfl <;> rcases (show j = 0 ∨ j = 1 ∨ j = 2 ∨ j = 3 ∨ j = 4 by omega) with rfl | rfl | rfl | rfl | rfl <;> rfl
  refine ⟨ns, fr, t, l, fl, hM.marked hk hg own hl, hS, sb.kept ((Kept.grown hg fun b e => .inl e).trans (Kept.setCell (X := fun b => (vx k).ownBlock = some b ∨ b = base + 4) _ _ _ (.inr rfl))) ?_ ?_⟩
  · rintro (e | e)
    · exact sb.rows (3 + k) (by omega) N (by rw [ek]; exact e) rfl
    · omega
  · intro j hj g hg
    rw [q j hj] at hg
    exact rows_put (by omega) sb.rows sb.lt (by rw [ek]; exact hl) j hj g hg

theorem map_erase {α β : Type} (f : α → β) : ∀ (xs : List α) (j : Nat), (xs.eraseIdx j).map f = (xs.map f).eraseIdx j
  | [], _ => rfl
  | x :: xs, 0 => rfl
  | x :: xs, j + 1 => by simp [map_erase f xs j]

theorem st_del_mp {mp' : Nat → List Int} {mx' : Nat → List Bool} (hM : Mem w W base hdr n ns fr t vp vx mp mx) (hS : SemL n ns fr t mp' mx' l fl) (sb : Sb W N base hdr vp vx op pl tx nm ex) {k j g cp : Nat} (hk : k < 2) (hj : j < (mp k).length) (hv : vp k = .slice (some ⟨g, 0, none⟩) (mp k).length cp) {W3 : World}
    (own : W3.ownsRow (base + 5) 2 1 (.slice (some ⟨g, 0, none⟩) ((mp k).length - 1) cp) ((mp k).length - 1) (((mp k).map (Value.int .i64)).eraseIdx j)) (hg : W.drew.grownBy W3 (some g)) :
    ∃ vp', St w (W3.setCell ⟨base + 3, k, none⟩ (.slice (some ⟨g, 0, none⟩) (j + ((mp k).length - (j + 1))) cp)) base hdr n vp' vx (putAt mp k ((mp k).eraseIdx j)) mx mp' mx' N op pl tx nm ex := by
  have e : j + ((mp k).length - (j + 1)) = (mp k).length - 1 := by omega
  have el : ((mp k).eraseIdx j).length = (mp k).length - 1 := by rw [List.length_eraseIdx, if_pos hj]
  rw [e]
  refine ⟨_, st_placed hM hS sb hk (grown_trans (grown_drew _ _) (by rw [hv]; exact hg)) ?_ (.inl (by rw [hv]; rfl))⟩
  rw [el, map_erase]; exact own

theorem st_del_mx {mp' : Nat → List Int} {mx' : Nat → List Bool} (hM : Mem w W base hdr n ns fr t vp vx mp mx) (hS : SemL n ns fr t mp' mx' l fl) (sb : Sb W N base hdr vp vx op pl tx nm ex) {k j g cp : Nat} (hk : k < 2) (hj : j < (mx k).length) (hv : vx k = .slice (some ⟨g, 0, none⟩) (mx k).length cp) {W3 : World}
    (own : W3.ownsRow (base + 5) 4 1 (.slice (some ⟨g, 0, none⟩) ((mx k).length - 1) cp) ((mx k).length - 1) (((mx k).map Value.bool).eraseIdx j)) (hg : W.drew.grownBy W3 (some g)) :
    ∃ vx', St w (W3.setCell ⟨base + 4, k, none⟩ (.slice (some ⟨g, 0, none⟩) (j + ((mx k).length - (j + 1))) cp)) base hdr n vp vx' mp (putAt mx k ((mx k).eraseIdx j)) mp' mx' N op pl tx nm ex := by
  have e : j + ((mx k).length - (j + 1)) = (mx k).length - 1 := by omega
  have el : ((mx k).eraseIdx j).length = (mx k).length - 1 := by rw [List.length_eraseIdx, if_pos hj]
  rw [e]
  refine ⟨_, st_marked hM hS sb hk (grown_trans (grown_drew _ _) (by rw [hv]; exact hg)) ?_ (.inl (by rw [hv]; rfl))⟩
  rw [el, map_erase]; exact own

theorem mem_insert (hM : Mem w W base hdr n ns fr t vp vx mp mx) (hS : SemL n ns fr t mp mx l fl) {k : Nat} (hk : k < 2) (hn : n < 4096) :
    Calls Yba.prog 15 #[.pointer (some ⟨base + 1, 0, none⟩), .pointer (some ⟨base + 2, k, none⟩), .int .i64 pl, .int .i32 tx, .int .i32 nm, .bool ex] W fun e w' => e = .returned (.tuple #[]) ∧
      ∃ (v n' : Nat) (hdr' : Value) (fr' r : Int) (ns' : Nat → Nd) (f' : Nat), Inserted (base + 5) (base + 1) (base + 2) k n hdr W ns fr pl ex (l k) v n' hdr' fr' r ns' f' w' := by
  obtain ⟨f, hT⟩ := hS.tree k hk
  obtain ⟨q, hq⟩ := hM.rng
  have hB := hM.rowBound
  exact insert_any hM.pool hS.good hT (hS.lnd hk) (hS.sorted k hk) (by omega) (fun e => by have := (hB 0 (by omega) _ e).1; omega) hM.free hq (hM.root k hk) (hM.frz _ (by omega) (by omega)) (hM.frz _ (by omega) (by omega)) (hS.where_ hk hn) hM.size

theorem st_inserted (hM : Mem w W base hdr n ns fr t vp vx mp mx) (hS : SemL n ns fr t mp mx l fl) (sb : Sb W N base hdr vp vx op pl tx nm ex) {k : Nat} (hk : k < 2) (hp0 : 0 ≤ pl) (hp1 : pl ≤ 65535) (hnew : pl ∉ mp k) {W' : World}
    (hI : ∃ (v n' : Nat) (hdr' : Value) (fr' r : Int) (ns' : Nat → Nd) (f' : Nat), Inserted (base + 5) (base + 1) (base + 2) k n hdr W ns fr pl ex (l k) v n' hdr' fr' r ns' f' W') :
    ∃ hdr' n', n' ≤ n + 1 ∧ St w W' base hdr' n' vp vx mp mx (putAt mp k (mp k ++ [pl])) (putAt mx k (mx k ++ [ex])) N op pl tx nm ex := by
  obtain ⟨v, n', hdr', fr', r, ns', f', hI⟩ := hI
  obtain ⟨fl', hS'⟩ := hS.inserted hk hp0 hp1 hnew hI
  have far := sb.far
  refine ⟨hdr', n', by rcases hI.way with h | h <;> omega, ns', fr', putAt t k r, _, fl', hM.pooled hk hI.pool hI.kept hI.free hI.rng hI.other hI.root hI.zs hI.zr hI.lies, hS', sb.kept hI.kept ?_ ?_⟩
  · rintro (e | e | e)
    · exact sb.rows 0 (by omega) N e rfl
    · omega
    · omega
  · have q : ∀ j, j < 5 → rowOf hdr' vp vx j = putAt (rowOf hdr vp vx) 0 hdr' j := fun j hj => by
      rcases (show j = 0 ∨ j = 1 ∨ j = 2 ∨ j = 3 ∨ j = 4 by omega) with rfl | rfl | rfl | rfl | rfl <;> rfl
    intro j hj g hg
    rw [q j hj] at hg
    exact rows_put (by omega) sb.rows sb.lt hI.lies j hj g hg

theorem st_add_mp {mp' : Nat → List Int} {mx' : Nat → List Bool} (hM : Mem w W base hdr n ns fr t vp vx mp mx) (hS : SemL n ns fr t mp' mx' l fl) (sb : Sb W N base hdr vp vx op pl tx nm ex) {k g cap : Nat} (hk : k < 2) {W2 W3 : World} {x : Int}
    (h2 : W.grownBy W2 none) (hz : W2.heap.size = W.heap.size + 1) (own : W3.ownsRow (base + 5) 2 1 (.slice (some ⟨g, 0, none⟩) ((mp k).length + 1) cap) ((mp k).length + 1) ((mp k).map (Value.int .i64) ++ [.int .i64 x]))
    (hg : W2.grownBy W3 (vp k).ownBlock) (hat : (vp k).ownBlock = some g ∨ g = W2.heap.size) :
    ∃ vp', St w (W3.setCell ⟨base + 3, k, none⟩ (.slice (some ⟨g, 0, none⟩) ((mp k).length + 1) cap)) base hdr n vp' vx (putAt mp k (mp k ++ [x])) mx mp' mx' N op pl tx nm ex := by
  refine ⟨_, st_placed hM hS sb hk (xs := mp k ++ [x]) (grown_trans ⟨h2.os, h2.tape, h2.output, h2.size, fun i hi _ => h2.block i hi (by simp)⟩ hg) ?_ ?_⟩
  · rw [List.length_append, List.map_append]; exact own
  · rcases hat with h | h
    · exact .inl h.symm
    · exact .inr ⟨g, rfl, by omega⟩

theorem st_add_mx {mp' : Nat → List Int} {mx' : Nat → List Bool} (hM : Mem w W base hdr n ns fr t vp vx mp mx) (hS : SemL n ns fr t mp' mx' l fl) (sb : Sb W N base hdr vp vx op pl tx nm ex) {k g cap : Nat} (hk : k < 2) {W2 W3 : World} {x : Bool}
    (h2 : W.grownBy W2 none) (hz : W2.heap.size = W.heap.size + 1) (own : W3.ownsRow (base + 5) 4 1 (.slice (some ⟨g, 0, none⟩) ((mx k).length + 1) cap) ((mx k).length + 1) ((mx k).map Value.bool ++ [.bool x]))
    (hg : W2.grownBy W3 (vx k).ownBlock) (hat : (vx k).ownBlock = some g ∨ g = W2.heap.size) :
    ∃ vx', St w (W3.setCell ⟨base + 4, k, none⟩ (.slice (some ⟨g, 0, none⟩) ((mx k).length + 1) cap)) base hdr n vp vx' mp (putAt mx k (mx k ++ [x])) mp' mx' N op pl tx nm ex := by
  refine ⟨_, st_marked hM hS sb hk (xs := mx k ++ [x]) (grown_trans ⟨h2.os, h2.tape, h2.output, h2.size, fun i hi _ => h2.block i hi (by simp)⟩ hg) ?_ ?_⟩
  · rw [List.length_append, List.map_append]; exact own
  · rcases hat with h | h
    · exact .inl h.symm
    · exact .inr ⟨g, rfl, by omega⟩

theorem St.inv (h : St w W base hdr n vp vx mp mx mp mx N op pl tx nm ex) {i : Nat} (hn : n ≤ i) (hm : ∀ k, k < 2 → (mp k).length ≤ i) : Inv w W base i := by
  obtain ⟨ns, fr, t, l, fl, hM, hS, _⟩ := h
  exact ⟨hdr, n, ns, fr, t, vp, vx, mp, mx, l, fl, hM, hS, hn, hm⟩

theorem bools_oneCell (zs : List Bool) : ∀ u ∈ zs.map Value.bool, u.oneCell' = true := by
  intro u hu
  obtain ⟨_, _, rfl⟩ := List.mem_map.1 hu
  rfl
end

end Go.Proofs.Ybulkfhsm.B
