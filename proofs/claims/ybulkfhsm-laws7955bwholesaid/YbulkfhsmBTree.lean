/-
  PLAIN: the trees in the pool. 'T n ns f t l': t is the root of a tree of height at most f, all of whose nodes are numbers below n; l: its nodes in order; each node's field fex is right.
-/
import Derived.Test.YbulkfhsmBUpdate
namespace Go.Proofs.Ybulkfhsm.B

/-- The first of the nodes that wants an exclusive lock. -/
def firstEx (ns : Nat → Nd) : List Nat → Int
  | [] => -1
  | j :: l => if (ns j).excl then (j : Int) else firstEx ns l

theorem firstEx_append (ns : Nat → Nd) (l m : List Nat) : firstEx ns (l ++ m) = if firstEx ns l = -1 then firstEx ns m else firstEx ns l := by
  induction l with
  | nil => simp [firstEx]
  | cons j l ih =>
    simp only [List.cons_append, firstEx]
    by_cases h : (ns j).excl
    · simp only [h, if_true]; rw [if_neg (by omega)]
    · simp only [h]; exact ih

theorem firstEx_congr {ns ns' : Nat → Nd} {l : List Nat} (h : ∀ j, j ∈ l → (ns' j).excl = (ns j).excl) : firstEx ns' l = firstEx ns l := by
  induction l with
  | nil => rfl
  | cons j l ih => simp only [firstEx]; rw [h j (by simp), ih fun k hk => h k (by simp [hk])]

theorem firstEx_some {ns : Nat → Nd} {l : List Nat} : firstEx ns l = -1 ∧ (∀ j, j ∈ l → (ns j).excl = false) ∨ ∃ (l1 : List Nat) (j : Nat) (l2 : List Nat), l = l1 ++ j :: l2 ∧ firstEx ns l = (j : Int) ∧ (ns j).excl = true ∧ ∀ k, k ∈ l1 → (ns k).excl = false := by
  induction l with
  | nil => exact .inl ⟨rfl, by simp⟩
  | cons j l ih =>
    by_cases h : (ns j).excl = true
    · exact .inr ⟨[], j, l, rfl, by simp [firstEx, h], h, by simp⟩
    · have h' : (ns j).excl = false := by simpa using h
      rcases ih with ⟨h1, h2⟩ | ⟨l1, k, l2, h1, h2, h3, h4⟩
      · refine .inl ⟨by simp [firstEx, h', h1], fun i hi => ?_⟩
        rcases List.mem_cons.1 hi with rfl | hi
        · exact h'
        · exact h2 i hi
      · refine .inr ⟨j :: l1, k, l2, by simp [h1], by simp [firstEx, h', h2], h3, fun i hi => ?_⟩
        rcases List.mem_cons.1 hi with rfl | hi
        · exact h'
        · exact h4 i hi

def T (n : Nat) (ns : Nat → Nd) : Nat → Int → List Nat → Prop
  | 0, t, l => t = -1 ∧ l = []
  | f + 1, t, l => (t = -1 ∧ l = []) ∨ ∃ (i : Nat) (l1 l2 : List Nat), t = (i : Int) ∧ i < n ∧ l = l1 ++ i :: l2 ∧ T n ns f (ns i).left l1 ∧ T n ns f (ns i).right l2 ∧ (ns i).fex = firstEx ns l

theorem T.nil (n : Nat) (ns : Nat → Nd) (f : Nat) : T n ns f (-1) [] := by cases f <;> simp [T]

theorem T.of_none {n : Nat} {ns : Nat → Nd} {f : Nat} {l : List Nat} (h : T n ns f (-1) l) : l = [] := by
  cases f with
  | zero => exact h.2
  | succ f =>
    rcases h with h | ⟨i, l1, l2, e, _⟩
    · exact h.2
    · omega

theorem T.ref {n : Nat} {ns : Nat → Nd} {f : Nat} {t : Int} {l : List Nat} (h : T n ns f t l) : Ref n t := by
  cases f with
  | zero => exact .inl h.1
  | succ f =>
    rcases h with h | ⟨i, l1, l2, e, hi, _⟩
    · exact .inl h.1
    · exact .inr ⟨i, hi, e⟩

theorem T.root_mem {n : Nat} {ns : Nat → Nd} {f : Nat} {i : Nat} {l : List Nat} (h : T n ns f (i : Int) l) : i ∈ l := by
  cases f with
  | zero => have := h.1; omega
  | succ f =>
    rcases h with h | ⟨j, l1, l2, e, hj, rfl, _⟩
    · omega
    · obtain rfl : i = j := by omega
      simp

theorem T.lt {n : Nat} {ns : Nat → Nd} {f : Nat} : ∀ {t : Int} {l : List Nat}, T n ns f t l → ∀ j, j ∈ l → j < n := by
  induction f with
  | zero => intro t l h j hj; rw [h.2] at hj; cases hj
  | succ f ih =>
    intro t l h j hj
    rcases h with h | ⟨i, l1, l2, e, hi, rfl, h1, h2, _⟩
    · rw [h.2] at hj; cases hj
    · simp only [List.mem_append, List.mem_cons] at hj
      rcases hj with hj | rfl | hj
      · exact ih h1 j hj
      · exact hi
      · exact ih h2 j hj

theorem T.succ {n : Nat} {ns : Nat → Nd} {f : Nat} : ∀ {t : Int} {l : List Nat}, T n ns f t l → T n ns (f + 1) t l := by
  induction f with
  | zero => intro t l h; exact .inl h
  | succ f ih =>
    intro t l h
    rcases h with h | ⟨i, l1, l2, e, hi, hl, h1, h2, h3⟩
    · exact .inl h
    · exact .inr ⟨i, l1, l2, e, hi, hl, ih h1, ih h2, h3⟩

theorem T.mono {n : Nat} {ns : Nat → Nd} {f g : Nat} {t : Int} {l : List Nat} (h : T n ns f t l) (hg : f ≤ g) : T n ns g t l := by
  induction hg with
  | refl => exact h
  | step _ ih => exact ih.succ

theorem T.frame {n : Nat} {ns ns' : Nat → Nd} {f : Nat} : ∀ {t : Int} {l : List Nat}, T n ns f t l → (∀ j, j ∈ l → ns' j = ns j) → T n ns' f t l := by
  induction f with
  | zero => intro t l h _; exact h
  | succ f ih =>
    intro t l h hs
    rcases h with h | ⟨i, l1, l2, e, hi, rfl, h1, h2, h3⟩
    · exact .inl h
    · refine .inr ⟨i, l1, l2, e, hi, rfl, ?_, ?_, ?_⟩
      · rw [hs i (by simp)]; exact ih h1 fun j hj => hs j (by simp [hj])
      · rw [hs i (by simp)]; exact ih h2 fun j hj => hs j (by simp [hj])
      · rw [hs i (by simp), h3]; exact (firstEx_congr fun j hj => by rw [hs j hj]).symm

theorem T.larger {n n' : Nat} {ns : Nat → Nd} (hn : n ≤ n') {f : Nat} : ∀ {t : Int} {l : List Nat}, T n ns f t l → T n' ns f t l := by
  induction f with
  | zero => intro t l h; exact h
  | succ f ih =>
    intro t l h
    rcases h with h | ⟨i, l1, l2, e, hi, hl, h1, h2, h3⟩
    · exact .inl h
    · exact .inr ⟨i, l1, l2, e, by omega, hl, ih h1, ih h2, h3⟩

theorem T.fex {n : Nat} {ns : Nat → Nd} {f : Nat} {t : Int} {l : List Nat} (h : T n ns f t l) : (if t ≠ -1 then (ns t.toNat).fex else -1) = firstEx ns l := by
  cases f with
  | zero => rw [h.1, h.2]; simp [firstEx]
  | succ f =>
    rcases h with h | ⟨i, l1, l2, rfl, hi, rfl, h1, h2, h3⟩
    · rw [h.1, h.2]; simp [firstEx]
    · rw [if_pos (by omega)]; simpa using h3

/-- What holds of all nodes of the pool, in a tree or not. -/
def G (n : Nat) (ns : Nat → Nd) : Prop := ∀ j, j < n → (∃ a : Nat, a < n ∧ (ns j).least = (a : Int)) ∧ Ref n (ns j).lex

theorem G.upd {n : Nat} {ns : Nat → Nd} (h : G n ns) {i : Nat} {d : Nd} (h1 : ∃ a : Nat, a < n ∧ d.least = (a : Int)) (h2 : Ref n d.lex) : G n (upd ns i d) := by
  intro j hj
  by_cases e : j = i
  · subst e; rw [upd_same]; exact ⟨h1, h2⟩
  · rw [upd_other _ _ e]; exact h j hj

/-- Of nodes outside l nothing turns; of none turns its place, nor whether it is exclusive. -/
structure Chg (l : List Nat) (ns ns' : Nat → Nd) : Prop where
  keep : ∀ j, j ∉ l → ns' j = ns j
  place : ∀ j, (ns' j).place = (ns j).place
  excl : ∀ j, (ns' j).excl = (ns j).excl

theorem Chg.refl (l : List Nat) (ns : Nat → Nd) : Chg l ns ns := ⟨fun _ _ => rfl, fun _ => rfl, fun _ => rfl⟩
theorem Chg.trans {l : List Nat} {a b c : Nat → Nd} (h : Chg l a b) (k : Chg l b c) : Chg l a c :=
  ⟨fun j hj => (k.keep j hj).trans (h.keep j hj), fun j => (k.place j).trans (h.place j), fun j => (k.excl j).trans (h.excl j)⟩
theorem Chg.mono {l l' : List Nat} {a b : Nat → Nd} (h : Chg l a b) (hl : ∀ j, j ∈ l → j ∈ l') : Chg l' a b :=
  ⟨fun j hj => h.keep j fun e => hj (hl j e), h.place, h.excl⟩
theorem Chg.upd {l : List Nat} {a b : Nat → Nd} (h : Chg l a b) {i : Nat} (hi : i ∈ l) {d : Nd} (h1 : d.place = (b i).place) (h2 : d.excl = (b i).excl) : Chg l a (upd b i d) := by
  refine h.trans ⟨fun j hj => upd_other _ _ (fun e => hj (e ▸ hi)), fun j => ?_, fun j => ?_⟩
  · by_cases e : j = i
    · subst e; rw [upd_same, h1]
    · rw [upd_other _ _ e]
  · by_cases e : j = i
    · subst e; rw [upd_same, h2]
    · rw [upd_other _ _ e]

theorem fexF_right {n : Nat} {ns : Nat → Nd} {f i : Nat} {L R : Int} {l1 l2 : List Nat} (h1 : T n ns f L l1) (h2 : T n ns f R l2) :
    fexF ns (own0 (ns i).excl i) L R = firstEx ns (l1 ++ i :: l2) := by
  have e1 := h1.fex
  have e2 := h2.fex
  rw [firstEx_append, firstEx]
  unfold fexF own0
  by_cases hL : L = -1
  · subst hL
    simp only [ne_eq, not_true_eq_false, if_false] at e1
    rw [← e1, if_neg (by simp), if_pos rfl]
    by_cases hx : (ns i).excl = true
    · simp only [hx, if_true]; rw [if_neg (by omega)]
    · simp only [hx]
      by_cases hR : R = -1
      · subst hR; simp at e2; simp [← e2]
      · simp [hR] at e2; simp [hR, e2]
  · rw [if_pos hL] at e1
    rw [e1]
    by_cases hf : firstEx ns l1 = -1
    · rw [if_neg (by simp [hf]), if_pos hf]
      by_cases hx : (ns i).excl = true
      · simp only [hx, if_true]; rw [if_neg (by omega)]
      · simp only [hx]
        by_cases hR : R = -1
        · subst hR; simp at e2; simp [← e2]
        · simp [hR] at e2; simp [hR, e2]
    · rw [if_pos ⟨hL, hf⟩, if_neg hf]

/-- A node over two trees, behind 'update'. -/
theorem T.node {n : Nat} {ns : Nat → Nd} {f i : Nat} {l1 l2 : List Nat} {a b : Int} (hi : i < n) (h1 : T n ns f (ns i).left l1) (h2 : T n ns f (ns i).right l2) (n1 : i ∉ l1) (n2 : i ∉ l2) :
    T n (Go.Proofs.Ybulkfhsm.B.upd ns i (upNd (ns i) a b (fexF ns (own0 (ns i).excl i) (ns i).left (ns i).right))) (f + 1) (i : Int) (l1 ++ i :: l2) := by
  refine .inr ⟨i, l1, l2, rfl, hi, rfl, ?_, ?_, ?_⟩
  · rw [upd_same]; exact h1.frame fun j hj => upd_other _ _ (fun e => n1 (e ▸ hj))
  · rw [upd_same]; exact h2.frame fun j hj => upd_other _ _ (fun e => n2 (e ▸ hj))
  · rw [upd_same]
    show fexF ns (own0 (ns i).excl i) (ns i).left (ns i).right = _
    rw [fexF_right h1 h2]
    refine (firstEx_congr fun j _ => ?_).symm
    by_cases e : j = i
    · subst e; rw [upd_same]; rfl
    · rw [upd_other _ _ e]

def Sorted (ns : Nat → Nd) (l : List Nat) : Prop := l.Pairwise fun a b => (ns a).place < (ns b).place

def low (ns : Nat → Nd) (p : Int) (l : List Nat) : List Nat := l.filter fun j => decide ((ns j).place < p)
def high (ns : Nat → Nd) (p : Int) (l : List Nat) : List Nat := l.filter fun j => !decide ((ns j).place < p)

theorem sorted_split {ns : Nat → Nd} {l1 l2 : List Nat} {i : Nat} (h : Sorted ns (l1 ++ i :: l2)) :
    Sorted ns l1 ∧ Sorted ns l2 ∧ (∀ j, j ∈ l1 → (ns j).place < (ns i).place) ∧ (∀ j, j ∈ l2 → (ns i).place < (ns j).place) := by
  unfold Sorted at *
  rw [List.pairwise_append, List.pairwise_cons] at h
  exact ⟨h.1, h.2.1.2, fun j hj => h.2.2 j hj i (by simp), h.2.1.1⟩

theorem low_node_lt {ns : Nat → Nd} {l1 l2 : List Nat} {i : Nat} {p : Int} (h : Sorted ns (l1 ++ i :: l2)) (hp : (ns i).place < p) :
    low ns p (l1 ++ i :: l2) = l1 ++ i :: low ns p l2 ∧ high ns p (l1 ++ i :: l2) = high ns p l2 := by
  obtain ⟨_, _, h1, _⟩ := sorted_split h
  have e1 : l1.filter (fun j => decide ((ns j).place < p)) = l1 := List.filter_eq_self.2 fun j hj => by have := h1 j hj; simp; omega
  have e2 : l1.filter (fun j => !decide ((ns j).place < p)) = [] := List.filter_eq_nil_iff.2 fun j hj => by have := h1 j hj; simp; omega
  simp [low, high, List.filter_append, hp, e1, e2]

theorem low_node_ge {ns : Nat → Nd} {l1 l2 : List Nat} {i : Nat} {p : Int} (h : Sorted ns (l1 ++ i :: l2)) (hp : ¬ (ns i).place < p) :
    low ns p (l1 ++ i :: l2) = low ns p l1 ∧ high ns p (l1 ++ i :: l2) = high ns p l1 ++ i :: l2 := by
  obtain ⟨_, _, _, h2⟩ := sorted_split h
  have e1 : l2.filter (fun j => decide ((ns j).place < p)) = [] := List.filter_eq_nil_iff.2 fun j hj => by have := h2 j hj; simp; omega
  have e2 : l2.filter (fun j => !decide ((ns j).place < p)) = l2 := List.filter_eq_self.2 fun j hj => by have := h2 j hj; simp; omega
  simp [low, high, List.filter_append, hp, e1, e2]

theorem nodup_node {l1 l2 : List Nat} {i : Nat} (h : (l1 ++ i :: l2).Nodup) : l1.Nodup ∧ l2.Nodup ∧ i ∉ l1 ∧ i ∉ l2 ∧ ∀ j, j ∈ l1 → j ∉ l2 := by
  rw [List.nodup_append, List.nodup_cons] at h
  exact ⟨h.1, h.2.1.2, fun e => h.2.2 i e i (by simp) rfl, h.2.1.1, fun j hj hj2 => h.2.2 j hj j (by simp [hj2]) rfl⟩

/-- 'split', the node ahead of the place: the right subtree was split into x, y; x was laid at the right of i; i was updated. -/
theorem split_lt {n : Nat} {ns ns1 : Nat → Nd} {f i : Nat} {l1 l2 : List Nat} {p x y : Int} {a : Nat} {b : Int}
    (hi : i < n) (h1 : T n ns f (ns i).left l1) (hN : (l1 ++ i :: l2).Nodup) (hS : Sorted ns (l1 ++ i :: l2)) (hp : (ns i).place < p)
    (hG : G n ns1) (hC : Chg l2 ns ns1) (hx : T n ns1 f x (low ns p l2)) (hy : T n ns1 f y (high ns p l2)) (ha : a < n) (hb : Ref n b) (ns2 ns' : Nat → Nd)
    (e2 : ns2 = upd ns1 i { ns1 i with right := x }) (e' : ns' = upd ns2 i (upNd (ns2 i) a b (fexF ns2 (own0 (ns2 i).excl i) (ns2 i).left (ns2 i).right))) :
    G n ns' ∧ Chg (l1 ++ i :: l2) ns ns' ∧ T n ns' (f + 1) (i : Int) (low ns p (l1 ++ i :: l2)) ∧ T n ns' (f + 1) y (high ns p (l1 ++ i :: l2)) := by
  obtain ⟨_, _, n1, n2, n3⟩ := nodup_node hN
  obtain ⟨eL, eH⟩ := low_node_lt hS hp
  have hii : ns1 i = ns i := hC.keep i n2
  have s2 : ns2 i = { ns1 i with right := x } := by rw [e2, upd_same]
  have o2 : ∀ j, j ≠ i → ns2 j = ns1 j := fun j hj => by rw [e2, upd_other _ _ hj]
  have o' : ∀ j, j ≠ i → ns' j = ns1 j := fun j hj => by rw [e', upd_other _ _ hj, o2 j hj]
  have mlow : ∀ j, j ∈ low ns p l2 → j ∈ l2 := fun j hj => (List.mem_filter.1 hj).1
  have mhigh : ∀ j, j ∈ high ns p l2 → j ∈ l2 := fun j hj => (List.mem_filter.1 hj).1
  have G2 : G n ns2 := by rw [e2]; exact hG.upd (hG i hi).1 (hG i hi).2
  refine ⟨?_, ?_, ?_, ?_⟩
  · rw [e']; exact G2.upd ⟨a, ha, rfl⟩ hb
  · have c1 : Chg (l1 ++ i :: l2) ns ns1 := hC.mono fun j hj => by simp [hj]
    have c2 : Chg (l1 ++ i :: l2) ns ns2 := by rw [e2]; exact c1.upd (by simp) rfl rfl
    rw [e']; exact c2.upd (by simp) rfl rfl
  · rw [eL, e']
    refine T.node hi ?_ ?_ n1 (fun e => n2 (mlow i e))
    · rw [s2]
      show T n ns2 f (ns1 i).left l1
      rw [hii]
      exact h1.frame fun j hj => by rw [o2 j (fun e => n1 (e ▸ hj)), hC.keep j (n3 j hj)]
    · rw [s2]
      exact hx.frame fun j hj => o2 j (fun e => n2 (e ▸ mlow j hj))
  · rw [eH]
    exact (hy.frame fun j hj => o' j (fun e => n2 (e ▸ mhigh j hj))).succ

/-- 'split', the node not ahead of the place. -/
theorem split_ge {n : Nat} {ns ns1 : Nat → Nd} {f i : Nat} {l1 l2 : List Nat} {p x y : Int} {a : Nat} {b : Int}
    (hi : i < n) (h2 : T n ns f (ns i).right l2) (hN : (l1 ++ i :: l2).Nodup) (hS : Sorted ns (l1 ++ i :: l2)) (hp : ¬ (ns i).place < p)
    (hG : G n ns1) (hC : Chg l1 ns ns1) (hx : T n ns1 f x (low ns p l1)) (hy : T n ns1 f y (high ns p l1)) (ha : a < n) (hb : Ref n b) (ns2 ns' : Nat → Nd)
    (e2 : ns2 = upd ns1 i { ns1 i with left := y }) (e' : ns' = upd ns2 i (upNd (ns2 i) a b (fexF ns2 (own0 (ns2 i).excl i) (ns2 i).left (ns2 i).right))) :
    G n ns' ∧ Chg (l1 ++ i :: l2) ns ns' ∧ T n ns' (f + 1) x (low ns p (l1 ++ i :: l2)) ∧ T n ns' (f + 1) (i : Int) (high ns p (l1 ++ i :: l2)) := by
  obtain ⟨_, _, n1, n2, n3⟩ := nodup_node hN
  obtain ⟨eL, eH⟩ := low_node_ge hS hp
  have hii : ns1 i = ns i := hC.keep i n1
  have s2 : ns2 i = { ns1 i with left := y } := by rw [e2, upd_same]
  have o2 : ∀ j, j ≠ i → ns2 j = ns1 j := fun j hj => by rw [e2, upd_other _ _ hj]
  have o' : ∀ j, j ≠ i → ns' j = ns1 j := fun j hj => by rw [e', upd_other _ _ hj, o2 j hj]
  have mlow : ∀ j, j ∈ low ns p l1 → j ∈ l1 := fun j hj => (List.mem_filter.1 hj).1
  have mhigh : ∀ j, j ∈ high ns p l1 → j ∈ l1 := fun j hj => (List.mem_filter.1 hj).1
  have G2 : G n ns2 := by rw [e2]; exact hG.upd (hG i hi).1 (hG i hi).2
  refine ⟨?_, ?_, ?_, ?_⟩
  · rw [e']; exact G2.upd ⟨a, ha, rfl⟩ hb
  · have c1 : Chg (l1 ++ i :: l2) ns ns1 := hC.mono fun j hj => by simp [hj]
    have c2 : Chg (l1 ++ i :: l2) ns ns2 := by rw [e2]; exact c1.upd (by simp) rfl rfl
    rw [e']; exact c2.upd (by simp) rfl rfl
  · rw [eL]
    exact (hx.frame fun j hj => o' j (fun e => n1 (e ▸ mlow j hj))).succ
  · rw [eH, e']
    refine T.node hi ?_ ?_ (fun e => n1 (mhigh i e)) n2
    · rw [s2]
      exact hy.frame fun j hj => o2 j (fun e => n1 (e ▸ mhigh j hj))
    · rw [s2]
      show T n ns2 f (ns1 i).right l2
      rw [hii]
      exact h2.frame fun j hj => by rw [o2 j (fun e => n2 (e ▸ hj)), hC.keep j (fun e => n3 j e hj)]

/-- 'merge', the left root on top. -/
theorem merge_left {n : Nat} {ns ns1 : Nat → Nd} {f g i : Nat} {l1 l2 m : List Nat} {r : Int} {a : Nat} {b : Int}
    (hi : i < n) (h1 : T n ns f (ns i).left l1) (hN : ((l1 ++ i :: l2) ++ m).Nodup)
    (hG : G n ns1) (hC : Chg (l2 ++ m) ns ns1) (hr : T n ns1 (f + g) r (l2 ++ m)) (ha : a < n) (hb : Ref n b) (ns2 ns' : Nat → Nd)
    (e2 : ns2 = upd ns1 i { ns1 i with right := r }) (e' : ns' = upd ns2 i (upNd (ns2 i) a b (fexF ns2 (own0 (ns2 i).excl i) (ns2 i).left (ns2 i).right))) :
    G n ns' ∧ Chg ((l1 ++ i :: l2) ++ m) ns ns' ∧ T n ns' (f + 1 + g) (i : Int) ((l1 ++ i :: l2) ++ m) := by
  have hN' : (l1 ++ i :: (l2 ++ m)).Nodup := by simpa using hN
  obtain ⟨_, _, n1, n2, n3⟩ := nodup_node hN'
  have hii : ns1 i = ns i := hC.keep i n2
  have s2 : ns2 i = { ns1 i with right := r } := by rw [e2, upd_same]
  have o2 : ∀ j, j ≠ i → ns2 j = ns1 j := fun j hj => by rw [e2, upd_other _ _ hj]
  have G2 : G n ns2 := by rw [e2]; exact hG.upd (hG i hi).1 (hG i hi).2
  have el : (l1 ++ i :: l2) ++ m = l1 ++ i :: (l2 ++ m) := by simp
  rw [el]
  refine ⟨?_, ?_, ?_⟩
  · rw [e']; exact G2.upd ⟨a, ha, rfl⟩ hb
  · have c1 : Chg (l1 ++ i :: (l2 ++ m)) ns ns1 := hC.mono fun j hj => by simp only [List.mem_append, List.mem_cons] at hj ⊢; exact .inr (.inr hj)
    have c2 : Chg (l1 ++ i :: (l2 ++ m)) ns ns2 := by rw [e2]; exact c1.upd (by simp) rfl rfl
    rw [e']; exact c2.upd (by simp) rfl rfl
  · rw [e', show f + 1 + g = (f + g) + 1 by omega]
    refine T.node hi ?_ ?_ n1 n2
    · rw [s2]
      show T n ns2 (f + g) (ns1 i).left l1
      rw [hii]
      exact (h1.mono (by omega)).frame fun j hj => by rw [o2 j (fun e => n1 (e ▸ hj)), hC.keep j (n3 j hj)]
    · rw [s2]
      exact hr.frame fun j hj => o2 j (fun e => n2 (e ▸ hj))

/-- 'merge', the right root on top. -/
theorem merge_right {n : Nat} {ns ns1 : Nat → Nd} {f g i : Nat} {l1 l2 m : List Nat} {r : Int} {a : Nat} {b : Int}
    (hi : i < n) (h2 : T n ns g (ns i).right l2) (hN : (m ++ (l1 ++ i :: l2)).Nodup)
    (hG : G n ns1) (hC : Chg (m ++ l1) ns ns1) (hr : T n ns1 (f + g) r (m ++ l1)) (ha : a < n) (hb : Ref n b) (ns2 ns' : Nat → Nd)
    (e2 : ns2 = upd ns1 i { ns1 i with left := r }) (e' : ns' = upd ns2 i (upNd (ns2 i) a b (fexF ns2 (own0 (ns2 i).excl i) (ns2 i).left (ns2 i).right))) :
    G n ns' ∧ Chg (m ++ (l1 ++ i :: l2)) ns ns' ∧ T n ns' (f + (g + 1)) (i : Int) (m ++ (l1 ++ i :: l2)) := by
  have el : m ++ (l1 ++ i :: l2) = (m ++ l1) ++ i :: l2 := by simp
  rw [el] at hN ⊢
  obtain ⟨_, _, n1, n2, n3⟩ := nodup_node hN
  have hii : ns1 i = ns i := hC.keep i n1
  have s2 : ns2 i = { ns1 i with left := r } := by rw [e2, upd_same]
  have o2 : ∀ j, j ≠ i → ns2 j = ns1 j := fun j hj => by rw [e2, upd_other _ _ hj]
  have G2 : G n ns2 := by rw [e2]; exact hG.upd (hG i hi).1 (hG i hi).2
  refine ⟨?_, ?_, ?_⟩
  · rw [e']; exact G2.upd ⟨a, ha, rfl⟩ hb
  · have c1 : Chg ((m ++ l1) ++ i :: l2) ns ns1 := hC.mono fun j hj => by simp only [List.mem_append, List.mem_cons] at hj ⊢; exact .inl hj
    have c2 : Chg ((m ++ l1) ++ i :: l2) ns ns2 := by rw [e2]; exact c1.upd (by simp) rfl rfl
    rw [e']; exact c2.upd (by simp) rfl rfl
  · rw [e', show f + (g + 1) = (f + g) + 1 by omega]
    refine T.node hi ?_ ?_ n1 n2
    · rw [s2]
      exact hr.frame fun j hj => o2 j (fun e => n1 (e ▸ hj))
    · rw [s2]
      show T n ns2 (f + g) (ns1 i).right l2
      rw [hii]
      exact (h2.mono (by omega)).frame fun j hj => by rw [o2 j (fun e => n2 (e ▸ hj)), hC.keep j (fun e => n3 j e hj)]

end Go.Proofs.Ybulkfhsm.B
