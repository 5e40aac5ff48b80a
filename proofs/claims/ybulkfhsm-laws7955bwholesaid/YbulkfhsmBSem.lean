/-
  PLAIN: what the two trees and the free list have to do with the law's two plain lists.
-/
import Derived.Test.YbulkfhsmBMem
namespace Go.Proofs.Ybulkfhsm.B

/-- The free nodes, linked through their field left. -/
def Fl (ns : Nat → Nd) : List Nat → Int → Prop
  | [], fr => fr = -1
  | v :: fl, fr => fr = (v : Int) ∧ Fl ns fl (ns v).left

theorem Fl.frame {ns ns' : Nat → Nd} : ∀ {fl : List Nat} {fr : Int}, Fl ns fl fr → (∀ j, j ∈ fl → ns' j = ns j) → Fl ns' fl fr
  | [], _, h, _ => h
  | v :: fl, fr, h, hs => ⟨h.1, by rw [hs v (by simp)]; exact Fl.frame h.2 fun j hj => hs j (by simp [hj])⟩

def pe (ns : Nat → Nd) (j : Nat) : Int × Bool := ((ns j).place, (ns j).excl)

structure SemL (n : Nat) (ns : Nat → Nd) (fr : Int) (t : Nat → Int) (mp : Nat → List Int) (mx : Nat → List Bool) (l : Nat → List Nat) (fl : List Nat) : Prop where
  good : G n ns
  tree : ∀ k, k < 2 → ∃ f, T n ns f (t k) (l k)
  sorted : ∀ k, k < 2 → Sorted ns (l k)
  nodup : (l 0 ++ (l 1 ++ fl)).Nodup
  free : Fl ns fl fr
  flt : ∀ j, j ∈ fl → j < n
  len : ∀ k, k < 2 → (mx k).length = (mp k).length
  perm : ∀ k, k < 2 → ((l k).map (pe ns)).Perm ((mp k).zip (mx k))
  rng : ∀ k, k < 2 → ∀ p, p ∈ mp k → 0 ≤ p ∧ p ≤ 65535

section
variable {n : Nat} {ns : Nat → Nd} {fr : Int} {t : Nat → Int} {mp : Nat → List Int} {mx : Nat → List Bool} {l : Nat → List Nat} {fl : List Nat}

theorem SemL.lnd (h : SemL n ns fr t mp mx l fl) {k : Nat} (hk : k < 2) : (l k).Nodup := by
  have := h.nodup
  rw [List.nodup_append, List.nodup_append] at this
  rcases (show k = 0 ∨ k = 1 by omega) with rfl | rfl
  · exact this.1
  · exact this.2.1.1

theorem SemL.lfl (h : SemL n ns fr t mp mx l fl) {k : Nat} (hk : k < 2) : ∀ j, j ∈ l k → j ∉ fl := by
  have := h.nodup
  rw [List.nodup_append, List.nodup_append] at this
  intro j hj hf
  rcases (show k = 0 ∨ k = 1 by omega) with rfl | rfl
  · exact this.2.2 j hj j (by simp [hf]) rfl
  · exact this.2.1.2.2 j hj j hf rfl

theorem SemL.ll (h : SemL n ns fr t mp mx l fl) {k k' : Nat} (hk : k < 2) (hk' : k' < 2) (hne : k ≠ k') : ∀ j, j ∈ l k → j ∉ l k' := by
  have := h.nodup
  rw [List.nodup_append] at this
  intro j hj hf
  rcases (show k = 0 ∧ k' = 1 ∨ k = 1 ∧ k' = 0 by omega) with ⟨rfl, rfl⟩ | ⟨rfl, rfl⟩
  · exact this.2.2 j hj j (by simp [hf]) rfl
  · exact this.2.2 j hf j (by simp [hj]) rfl

theorem SemL.lt (h : SemL n ns fr t mp mx l fl) {k : Nat} (hk : k < 2) : ∀ j, j ∈ l k → j < n := by
  obtain ⟨f, hf⟩ := h.tree k hk
  exact hf.lt

/-- The node of the i-th entry of the plain lists. -/
theorem SemL.find (h : SemL n ns fr t mp mx l fl) {k i : Nat} (hk : k < 2) (hi : i < (mp k).length) (hi' : i < (mx k).length) :
    ∃ la v lb, l k = la ++ v :: lb ∧ pe ns v = ((mp k)[i], (mx k)[i]) := by
  have hm : ((mp k)[i], (mx k)[i]) ∈ (mp k).zip (mx k) := by
    rw [← List.getElem_zip (h := by rw [List.length_zip]; omega)]; exact List.getElem_mem _
  obtain ⟨v, hv, e⟩ := List.mem_map.1 ((h.perm k hk).mem_iff.2 hm)
  obtain ⟨la, lb, e'⟩ := List.append_of_mem hv
  exact ⟨la, v, lb, e', e⟩

theorem eraseIdx_perm {α : Type} : ∀ (xs : List α) (i : Nat) (h : i < xs.length), xs.Perm (xs[i] :: xs.eraseIdx i)
  | x :: xs, 0, _ => by simp
  | x :: xs, i + 1, h => by
    simp only [List.getElem_cons_succ, List.eraseIdx_cons_succ]
    exact (List.Perm.cons x (eraseIdx_perm xs i (by simpa using h))).trans (List.Perm.swap _ _ _)

theorem zip_eraseIdx {α β : Type} : ∀ (xs : List α) (ys : List β) (i : Nat), (xs.zip ys).eraseIdx i = (xs.eraseIdx i).zip (ys.eraseIdx i)
  | [], _, _ => by simp
  | x :: xs, [], i => by cases i <;> simp
  | x :: xs, y :: ys, 0 => by simp
  | x :: xs, y :: ys, i + 1 => by simp [zip_eraseIdx xs ys i]

theorem pe_chg {ns ns' : Nat → Nd} {m : List Nat} (h : ∀ j, j ∈ m → (ns' j).place = (ns j).place ∧ (ns' j).excl = (ns j).excl) : m.map (pe ns') = m.map (pe ns) :=
  List.map_congr_left fun j hj => by unfold pe; rw [(h j hj).1, (h j hj).2]

theorem SemL.removed (h : SemL n ns fr t mp mx l fl) {k i : Nat} (hk : k < 2) (hi : i < (mp k).length) (hi' : i < (mx k).length) {la lb : List Nat} {v : Nat} (hl : l k = la ++ v :: lb) (hv : pe ns v = ((mp k)[i], (mx k)[i]))
    {ns' : Nat → Nd} {r : Int} {f' : Nat} (hG : G n ns') (hT : T n ns' f' r (la ++ lb)) (hvl : (ns' v).left = fr) (hC : Chg (la ++ v :: lb) ns ns') :
    SemL n ns' (v : Int) (putAt t k r) (putAt mp k ((mp k).eraseIdx i)) (putAt mx k ((mx k).eraseIdx i)) (putAt l k (la ++ lb)) (v :: fl) := by
  have hvk : v ∈ l k := by rw [hl]; simp
  have hpl : ∀ m : List Nat, m.map (pe ns') = m.map (pe ns) := fun m => pe_chg fun j _ => ⟨hC.place j, hC.excl j⟩
  rw [← hl] at hC
  refine ⟨hG, ?_, ?_, ?_, ?_, ?_, ?_, ?_, ?_⟩
  · intro j hj
    by_cases e : j = k
    · subst e; rw [putAt_same, putAt_same]; exact ⟨f', hT⟩
    · rw [putAt_other _ _ e, putAt_other _ _ e]
      obtain ⟨f, hf⟩ := h.tree j hj
      exact ⟨f, hf.frame fun i hi => hC.keep i (h.ll hj hk e i hi)⟩
  · intro j hj
    by_cases e : j = k
    · subst e
      rw [putAt_same]
      refine sorted_chg hC.place (List.Pairwise.sublist ?_ (h.sorted j hj))
      rw [hl]; exact List.Sublist.append (List.Sublist.refl _) (List.sublist_cons_self _ _)
    · rw [putAt_other _ _ e]; exact sorted_chg hC.place (h.sorted j hj)
  · have hn := h.nodup
    refine List.Perm.nodup_iff ?_ |>.1 hn
    rcases (show k = 0 ∨ k = 1 by omega) with rfl | rfl
    · rw [putAt_same, putAt_other _ _ (by omega), hl]
      have : (la ++ v :: lb).Perm (v :: (la ++ lb)) := List.perm_middle
      refine (this.append_right _).trans ?_
      rw [List.cons_append]
      have q : ((la ++ lb) ++ (l 1 ++ v :: fl)).Perm (v :: ((la ++ lb) ++ (l 1 ++ fl))) := by
        rw [← List.append_assoc, ← List.append_assoc]; exact List.perm_middle
      exact q.symm
    · rw [putAt_same, putAt_other _ _ (by omega), hl]
      refine List.Perm.append_left _ ?_
      have : (la ++ v :: lb).Perm (v :: (la ++ lb)) := List.perm_middle
      refine (this.append_right _).trans ?_
      exact List.perm_middle.symm
  · exact ⟨rfl, by rw [hvl]; exact h.free.frame fun j hj => hC.keep j fun e => h.lfl hk j e hj⟩
  · intro j hj
    rcases List.mem_cons.1 hj with rfl | hj
    · exact h.lt hk j hvk
    · exact h.flt j hj
  · intro j hj
    by_cases e : j = k
    · subst e
      rw [putAt_same, putAt_same, List.length_eraseIdx, List.length_eraseIdx, h.len j hj]
    · rw [putAt_other _ _ e, putAt_other _ _ e]; exact h.len j hj
  · intro j hj
    by_cases e : j = k
    · subst e
      rw [putAt_same, putAt_same, putAt_same, hpl, ← zip_eraseIdx]
      have hp := h.perm j hj
      have hlz : i < ((mp j).zip (mx j)).length := by rw [List.length_zip]; omega
      have p1 := eraseIdx_perm ((mp j).zip (mx j)) i hlz
      have p2 : ((la ++ v :: lb).map (pe ns)).Perm (pe ns v :: (la ++ lb).map (pe ns)) := by
        rw [← List.map_cons]; exact List.Perm.map _ List.perm_middle
      rw [hl] at hp
      have p3 := (p2.symm.trans hp).trans p1
      rw [List.getElem_zip, hv] at p3
      exact p3.cons_inv
    · rw [putAt_other _ _ e, putAt_other _ _ e, putAt_other _ _ e, hpl]; exact h.perm j hj
  · intro j hj p hp
    by_cases e : j = k
    · subst e; rw [putAt_same] at hp; exact h.rng j hj p (List.mem_of_mem_eraseIdx hp)
    · rw [putAt_other _ _ e] at hp; exact h.rng j hj p hp

theorem low_high_perm (ns : Nat → Nd) (p : Int) (m : List Nat) : (low ns p m ++ high ns p m).Perm m := by
  unfold low high
  exact List.filter_append_perm _ _

theorem SemL.inserted (h : SemL n ns fr t mp mx l fl) {k : Nat} (hk : k < 2) {p : Int} {ex : Bool} (hp0 : 0 ≤ p) (hp1 : p ≤ 65535) (hnew : p ∉ mp k)
    {base s rb kk v n' f' : Nat} {hdr hdr' : Value} {fr' r : Int} {ns' : Nat → Nd} {w w' : World} (hI : Inserted base s rb kk n hdr w ns fr p ex (l k) v n' hdr' fr' r ns' f' w') :
    ∃ fl', SemL n' ns' fr' (putAt t k r) (putAt mp k (mp k ++ [p])) (putAt mx k (mx k ++ [ex])) (putAt l k (low ns p (l k) ++ v :: high ns p (l k))) fl' := by
  have hnp : ∀ j, j ∈ l k → (ns j).place ≠ p := by
    intro j hj e
    have hm := (h.perm k hk).mem_iff.1 (List.mem_map.2 ⟨j, hj, rfl⟩)
    have := (List.of_mem_zip hm).1
    exact hnew (e ▸ this)
  have hnn : n ≤ n' := by rcases hI.way with q | q <;> omega
  -- the free list behind the call, and where v was
  have hw : ∃ fl', Fl ns fl' fr' ∧ (∀ j, j ∈ fl' → j < n') ∧ (∀ j, j ∈ fl' → j ∈ fl ∧ j ≠ v) ∧ fl'.Nodup ∧ (∀ j, j < 2 → v ∉ l j) := by
    have hnd : fl.Nodup := by have := h.nodup; rw [List.nodup_append, List.nodup_append] at this; exact this.2.1.2.1
    rcases hI.way with ⟨e1, e2, e3, e4⟩ | ⟨e1, e2, e3⟩
    · refine ⟨fl, by rw [e4, ← e1]; exact h.free, fun j hj => by have := h.flt j hj; omega, fun j hj => ⟨hj, by have := h.flt j hj; omega⟩, hnd, fun j hj e => by have := h.lt hj v e; omega⟩
    · cases fl with
      | nil => have := h.free; simp only [Fl] at this; omega
      | cons x fl =>
        obtain ⟨q1, q2⟩ := h.free
        obtain rfl : v = x := by omega
        rw [List.nodup_cons] at hnd
        refine ⟨fl, by rw [e3]; exact q2, fun j hj => by have := h.flt j (by simp [hj]); omega, fun j hj => ⟨by simp [hj], fun e => hnd.1 (e ▸ hj)⟩, hnd.2, fun j hj e => h.lfl hj v e (by simp)⟩
  obtain ⟨fl', w1, w2, w3, w4, w5⟩ := hw
  have hkeep : ∀ j, j ≠ v → j ∉ l k → ns' j = ns j := hI.keep
  have hlow : ∀ j, j ∈ low ns p (l k) → j ∈ l k := fun j hj => (List.mem_filter.1 hj).1
  have hhigh : ∀ j, j ∈ high ns p (l k) → j ∈ l k := fun j hj => (List.mem_filter.1 hj).1
  have hpl : ∀ m : List Nat, v ∉ m → m.map (pe ns') = m.map (pe ns) := fun m hm => pe_chg fun j hj => ⟨hI.places j (fun e => hm (e ▸ hj)), hI.excls j (fun e => hm (e ▸ hj))⟩
  refine ⟨fl', hI.good, ?_, ?_, ?_, ?_, w2, ?_, ?_, ?_⟩
  · intro j hj
    by_cases e : j = k
    · subst e; rw [putAt_same, putAt_same]; exact ⟨f', hI.tree⟩
    · rw [putAt_other _ _ e, putAt_other _ _ e]
      obtain ⟨f, hf⟩ := h.tree j hj
      exact ⟨f, (hf.larger hnn).frame fun i hi => hkeep i (fun e' => w5 j hj (e' ▸ hi)) (h.ll hj hk e i hi)⟩
  · intro j hj
    have hso : ∀ m : List Nat, v ∉ m → Sorted ns m → Sorted ns' m := fun m hm hs => List.Pairwise.imp_of_mem (fun {x y} hx hy q => by rw [hI.places x (fun e => hm (e ▸ hx)), hI.places y (fun e => hm (e ▸ hy))]; exact q) hs
    by_cases e : j = k
    · subst e
      rw [putAt_same]
      have s1 : Sorted ns (low ns p (l j)) := List.Pairwise.sublist List.filter_sublist (h.sorted j hj)
      have s2 : Sorted ns (high ns p (l j)) := List.Pairwise.sublist List.filter_sublist (h.sorted j hj)
      have n1 : v ∉ low ns p (l j) := fun e => w5 j hj (hlow v e)
      have n2 : v ∉ high ns p (l j) := fun e => w5 j hj (hhigh v e)
      have b1 : ∀ x, x ∈ low ns p (l j) → (ns' x).place < p := fun x hx => by
        rw [hI.places x (fun e => n1 (e ▸ hx))]
        have := (List.mem_filter.1 hx).2
        simpa using this
      have b2 : ∀ x, x ∈ high ns p (l j) → p < (ns' x).place := fun x hx => by
        rw [hI.places x (fun e => n2 (e ▸ hx))]
        have q1 := (List.mem_filter.1 hx).2
        have q2 := hnp x (hhigh x hx)
        simp at q1
        omega
      unfold Sorted
      rw [List.pairwise_append, List.pairwise_cons]
      refine ⟨hso _ n1 s1, ⟨fun x hx => by rw [hI.place]; exact b2 x hx, hso _ n2 s2⟩, fun x hx y hy => ?_⟩
      have := b1 x hx
      rcases List.mem_cons.1 hy with rfl | hy
      · rw [hI.place]; exact this
      · have := b2 y hy; omega
    · rw [putAt_other _ _ e]; exact hso _ (w5 j hj) (h.sorted j hj)
  · have hn := h.nodup
    rw [List.nodup_append, List.nodup_append] at hn
    have hnk : (low ns p (l k) ++ v :: high ns p (l k)).Nodup := by
      have q : (low ns p (l k) ++ v :: high ns p (l k)).Perm (v :: l k) := List.perm_middle.trans (List.Perm.cons _ (low_high_perm ns p (l k)))
      rw [q.nodup_iff, List.nodup_cons]
      exact ⟨w5 k hk, h.lnd hk⟩
    have mk : ∀ j, j ∈ low ns p (l k) ++ v :: high ns p (l k) → j = v ∨ j ∈ l k := fun j hj => by
      simp only [List.mem_append, List.mem_cons] at hj
      rcases hj with q | q | q
      · exact .inr (hlow j q)
      · exact .inl q
      · exact .inr (hhigh j q)
    rw [List.nodup_append, List.nodup_append]
    rcases (show k = 0 ∨ k = 1 by omega) with rfl | rfl
    · rw [putAt_same, putAt_other _ _ (by omega)]
      refine ⟨hnk, ⟨hn.2.1.1, w4, fun a ha b hb => hn.2.1.2.2 a ha b (w3 b hb).1⟩, fun a ha b hb e => ?_⟩
      subst e
      rcases mk a ha with rfl | q
      · simp only [List.mem_append] at hb
        rcases hb with hb | hb
        · exact w5 1 (by omega) hb
        · exact (w3 a hb).2 rfl
      · simp only [List.mem_append] at hb
        rcases hb with hb | hb
        · exact h.ll (by omega) (by omega) (by omega) a q hb
        · exact h.lfl (k := 0) (by omega) a q (w3 a hb).1
    · rw [putAt_same, putAt_other _ _ (by omega)]
      refine ⟨hn.1, ⟨hnk, w4, fun a ha b hb e => ?_⟩, fun a ha b hb e => ?_⟩
      · subst e
        rcases mk a ha with rfl | q
        · exact (w3 a hb).2 rfl
        · exact h.lfl (k := 1) (by omega) a q (w3 a hb).1
      · subst e
        rw [List.mem_append] at hb
        rcases hb with hb | hb
        · rcases mk a hb with rfl | q
          · exact w5 0 (by omega) ha
          · exact h.ll (by omega) (by omega) (by omega) a ha q
        · exact h.lfl (k := 0) (by omega) a ha (w3 a hb).1
  · exact w1.frame fun j hj => hkeep j (w3 j hj).2 fun e => h.lfl hk j e (w3 j hj).1
  · intro j hj
    by_cases e : j = k
    · subst e; rw [putAt_same, putAt_same, List.length_append, List.length_append, h.len j hj]; rfl
    · rw [putAt_other _ _ e, putAt_other _ _ e]; exact h.len j hj
  · intro j hj
    by_cases e : j = k
    · subst e
      rw [putAt_same, putAt_same, putAt_same, List.zip_append (h.len j hj).symm]
      have q : (low ns p (l j) ++ v :: high ns p (l j)).Perm (v :: l j) := List.perm_middle.trans (List.Perm.cons _ (low_high_perm ns p (l j)))
      refine (q.map (pe ns')).trans ?_
      rw [List.map_cons, hpl _ (w5 j hj)]
      have e1 : pe ns' v = (p, ex) := by unfold pe; rw [hI.place, hI.excl]
      rw [e1]
      refine (List.Perm.cons _ (h.perm j hj)).trans ?_
      exact (List.perm_append_comm (l₁ := [(p, ex)])).trans (List.Perm.refl _)
    · rw [putAt_other _ _ e, putAt_other _ _ e, putAt_other _ _ e, hpl _ (w5 j hj)]; exact h.perm j hj
  · intro j hj q hq
    by_cases e : j = k
    · subst e
      rw [putAt_same, List.mem_append] at hq
      rcases hq with hq | hq
      · exact h.rng j hj q hq
      · rw [List.mem_singleton.1 hq]; exact ⟨hp0, hp1⟩
    · rw [putAt_other _ _ e] at hq; exact h.rng j hj q hq

/-- Where 'insert' finds its node. -/
theorem SemL.where_ (h : SemL n ns fr t mp mx l fl) {k : Nat} (hk : k < 2) (hn : n < 4096) : fr = -1 ∧ n < 4096 ∨ ∃ v : Nat, v < n ∧ fr = (v : Int) ∧ v ∉ l k := by
  cases fl with
  | nil => exact .inl ⟨h.free, hn⟩
  | cons v fl => exact .inr ⟨v, h.flt v (by simp), h.free.1, fun e => h.lfl hk v e (by simp)⟩
end

/-! ### the smallest place of an exclusive wait -/
/-- One round of the model's loop. -/
def wantStep (w : Int) (z : Int × Bool) : Int := if z.2 = true ∧ (w = -1 ∨ z.1 < w) then z.1 else w

def wantF (zs : List (Int × Bool)) : Int := zs.foldl wantStep (-1)

def IsWant (zs : List (Int × Bool)) (w : Int) : Prop := (w = -1 ∧ ∀ z, z ∈ zs → z.2 = false) ∨ ((w, true) ∈ zs ∧ ∀ z, z ∈ zs → z.2 = true → w ≤ z.1)

theorem isWant_snoc {zs : List (Int × Bool)} {w : Int} {z : Int × Bool} (h : IsWant zs w) (hz : ∀ x, x ∈ zs → 0 ≤ x.1) : IsWant (zs ++ [z]) (wantStep w z) := by
  unfold wantStep
  obtain ⟨p, e⟩ := z
  cases e with
  | false =>
    simp only [Bool.false_eq_true, false_and, if_false]
    rcases h with ⟨h1, h2⟩ | ⟨h1, h2⟩
    · exact .inl ⟨h1, fun x hx => by rcases List.mem_append.1 hx with hx | hx; exact h2 x hx; rw [List.mem_singleton.1 hx]⟩
    · exact .inr ⟨by simp [h1], fun x hx hx' => by rcases List.mem_append.1 hx with hx | hx; exact h2 x hx hx'; rw [List.mem_singleton.1 hx] at hx'; simp at hx'⟩
  | true =>
    simp only [true_and]
    rcases h with ⟨h1, h2⟩ | ⟨h1, h2⟩
    · rw [if_pos (.inl h1)]
      exact .inr ⟨by simp, fun x hx hx' => by rcases List.mem_append.1 hx with hx | hx; rw [h2 x hx] at hx'; simp at hx'; rw [List.mem_singleton.1 hx]; exact Int.le_refl _⟩
    · have hw := hz _ h1
      simp only at hw
      by_cases c : p < w
      · rw [if_pos (.inr c)]
        exact .inr ⟨by simp, fun x hx hx' => by rcases List.mem_append.1 hx with hx | hx; have := h2 x hx hx'; omega; rw [List.mem_singleton.1 hx]; exact Int.le_refl _⟩
      · rw [if_neg (by omega)]
        exact .inr ⟨by simp [h1], fun x hx hx' => by rcases List.mem_append.1 hx with hx | hx; exact h2 x hx hx'; rw [List.mem_singleton.1 hx]; show w ≤ p; omega⟩

theorem isWant_one {zs : List (Int × Bool)} {w w' : Int} (h : IsWant zs w) (h' : IsWant zs w') : w = w' := by
  rcases h with ⟨h1, h2⟩ | ⟨h1, h2⟩
  · rcases h' with ⟨k1, k2⟩ | ⟨k1, k2⟩
    · omega
    · have := h2 _ k1; simp at this
  · rcases h' with ⟨k1, k2⟩ | ⟨k1, k2⟩
    · have := k2 _ h1; simp at this
    · have a := h2 _ k1 rfl
      have b := k2 _ h1 rfl
      simp only at a b
      omega

theorem isWant_perm {zs ys : List (Int × Bool)} {w : Int} (hp : zs.Perm ys) (h : IsWant zs w) : IsWant ys w := by
  rcases h with ⟨h1, h2⟩ | ⟨h1, h2⟩
  · exact .inl ⟨h1, fun z hz => h2 z (hp.mem_iff.2 hz)⟩
  · exact .inr ⟨hp.mem_iff.1 h1, fun z hz => h2 z (hp.mem_iff.2 hz)⟩

theorem isWant_tree {ns : Nat → Nd} {m : List Nat} (hs : Sorted ns m) : IsWant (m.map (pe ns)) (feP ns m) := by
  unfold feP
  rcases firstEx_some (ns := ns) (l := m) with ⟨h1, h2⟩ | ⟨l1, j, l2, h1, h2, h3, h4⟩
  · rw [if_pos h1]
    exact .inl ⟨rfl, fun z hz => by obtain ⟨j, hj, rfl⟩ := List.mem_map.1 hz; exact h2 j hj⟩
  · rw [h2, if_neg (by omega)]
    simp only [Int.toNat_natCast]
    subst h1
    obtain ⟨_, _, _, o2⟩ := sorted_split hs
    refine .inr ⟨List.mem_map.2 ⟨j, by simp, by unfold pe; rw [h3]⟩, fun z hz hz' => ?_⟩
    obtain ⟨i, hi, rfl⟩ := List.mem_map.1 hz
    simp only [List.mem_append, List.mem_cons] at hi
    rcases hi with hi | rfl | hi
    · have := h4 i hi; unfold pe at hz'; simp [this] at hz'
    · exact Int.le_refl _
    · have := o2 i hi; unfold pe; simp only; omega

theorem isWant_fold (zs : List (Int × Bool)) (hz : ∀ x, x ∈ zs → 0 ≤ x.1) : ∀ i, i ≤ zs.length → IsWant (zs.take i) ((zs.take i).foldl wantStep (-1))
  | 0, _ => .inl ⟨by simp, by simp⟩
  | i + 1, h => by
    have ih := isWant_fold zs hz i (by omega)
    rw [List.take_succ_eq_append_getElem (by omega), List.foldl_append]
    exact isWant_snoc ih fun x hx => hz x (List.mem_of_mem_take hx)

/-- The model's answer is the tree's. -/
theorem SemL.want {n : Nat} {ns : Nat → Nd} {fr : Int} {t : Nat → Int} {mp : Nat → List Int} {mx : Nat → List Bool} {l : Nat → List Nat} {fl : List Nat} (h : SemL n ns fr t mp mx l fl) {k : Nat} (hk : k < 2) : wantF ((mp k).zip (mx k)) = feP ns (l k) := by
  have hz : ∀ x, x ∈ (mp k).zip (mx k) → 0 ≤ x.1 := fun x hx => (h.rng k hk x.1 (List.of_mem_zip hx).1).1
  have h1 := isWant_fold ((mp k).zip (mx k)) hz _ (Nat.le_refl _)
  rw [List.take_length] at h1
  exact isWant_one h1 (isWant_perm (h.perm k hk) (isWant_tree (h.sorted k hk)))
end Go.Proofs.Ybulkfhsm.B
