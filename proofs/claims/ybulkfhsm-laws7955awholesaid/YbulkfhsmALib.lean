/-
  slices.Clone and slices.Equal as the law calls them; access structs compared.
-/
import Derived.Test.YbulkfhsmASel
import Derived.Test.YbulkfhsmAShelf
import Derived.Laws.StructEq
namespace Go.Proofs.Ybulkfhsm.A
open Go.RowKit Go.Shelf

theorem allEq_self {α : Type} {eq : α → α → Bool} (h : ∀ x, eq x x = true) : ∀ xs : List α, Lib.allEq eq xs xs = true
  | [] => rfl
  | x :: xs => by simp [Lib.allEq, h x, allEq_self h xs]

def encO (x : Int × Int × ByteArray) : List Value := [.int .u8 x.1, .int .i32 x.2.1, .string x.2.2]

theorem neqO : NeqAt Yba.prog 32 (fun x => .agg (encO x).toArray) (fun x y => x.1 == y.1 && (x.2.1 == y.2.1 && x.2.2.toList == y.2.2.toList)) := by
  refine ⟨fun x y w => ?_, GuardAt.agg _ (by kernel_rfl)⟩
  have u3 := Yba.underlying30
  have a3 := Yba.isAgg30
  have z3 := Yba.sizeOf30
  have u4 := Yba.underlying25
  have a4 := Yba.isAgg25
  have z4 := Yba.sizeOf25
  have u5 := Yba.underlying9
  have a5 := Yba.isAgg9
  have z5 := Yba.sizeOf9
  have hS : Yba.prog.underlying 32 = some (.struct (Yba.prog.fieldsOf 32)) := by kernel_rfl
  have hp : Yba.prog.stoodInHeld 32 = false := by kernel_rfl
  simp only [encO]
  rw [run_neq_struct, show (10000 : Nat) = 9999 + 1 from rfl, run_equalIn_agg w 9999 32 _ _ hS hp]
  simp only [Program.fieldsOf, Yba.underlying32]
  go_simp
  by_cases h1 : x.1 = y.1 <;> by_cases h2 : x.2.1 = y.2.1 <;> by_cases h3 : x.2.2.toList = y.2.2.toList <;> simp [h1, h2, h3]

/-- An access struct is not unlike itself. -/
theorem neq_acc (w : World) (a b c e : Int) : (binOp .neq 45 (.agg #[.int .i32 a, .int .i32 b, .int .i32 c, .int .u8 e]) (.agg #[.int .i32 a, .int .i32 b, .int .i32 c, .int .u8 e])).run Yba.prog w = .ok (.bool false) w := by
  have u3 := Yba.underlying30
  have a3 := Yba.isAgg30
  have z3 := Yba.sizeOf30
  have u4 := Yba.underlying21
  have a4 := Yba.isAgg21
  have z4 := Yba.sizeOf21
  have hS : Yba.prog.underlying 45 = some (.struct (Yba.prog.fieldsOf 45)) := by kernel_rfl
  have hp : Yba.prog.stoodInHeld 45 = false := by kernel_rfl
  rw [run_neq_struct, show (10000 : Nat) = 9999 + 1 from rfl, run_equalIn_agg w 9999 45 _ _ hS hp]
  simp only [Program.fieldsOf, Yba.underlying45]
  go_simp

section
variable {W : World} {d : Dat} {gh go gt gv gh' go' gt' gv' : Nat}

theorem equalH_any (ok : d.Ok) (h : Lies W d gh go gt gv) (h' : Lies W d gh' go' gt' gv') (c c' : Nat) :
    Calls Yba.prog 10 #[.slice (some ⟨gh, 0, none⟩) d.N c, .slice (some ⟨gh', 0, none⟩) d.N c'] W fun e w' => e = .returned (.bool true) ∧ ∃ q, w' = W.drewN q := by
  have hN := ok.hN
  have len : ((List.range d.N).map fun i => (d.K i, d.V (d.T i), d.O i)).length = d.N := by simp
  have get : ∀ j, j < d.N → ((List.range d.N).map fun i => (d.K i, d.V (d.T i), d.O i))[j]! = (d.K j, d.V (d.T j), d.O j) := fun j hj => by
    rw [getElem!_pos _ j (by simpa using hj)]; simp
  have key : ∀ g, (∀ i, i < d.N → W.cell? ⟨g, i * 3, none⟩ = some (.int .u8 (d.K i))) → (∀ i, i < d.N → W.cell? ⟨g, i * 3 + 1, none⟩ = some (.int .i32 (d.V (d.T i)))) → (∀ i, i < d.N → W.cell? ⟨g, i * 3 + 2, none⟩ = some (.string (d.O i))) →
      ∀ j, j < ((List.range d.N).map fun i => (d.K i, d.V (d.T i), d.O i)).length → ∀ i v, (encO ((List.range d.N).map fun i => (d.K i, d.V (d.T i), d.O i))[j]!)[i]? = some v → W.cell? ⟨g, 0 + j * 3 + i, none⟩ = some v := by
    intro g h1 h2 h3 j hj i v hv
    rw [len] at hj
    rw [get j hj] at hv
    rw [Nat.zero_add]
    match i with
    | 0 => simp [encO] at hv; subst hv; exact h1 j hj
    | 1 => simp [encO] at hv; subst hv; exact h2 j hj
    | 2 => simp [encO] at hv; subst hv; exact h3 j hj
    | n + 3 => simp [encO] at hv
  have hcon := AnyQ.slices_Equal Yba.equalH 3 Yba.isAgg32 Yba.sizeOf32 encO (fun _ => rfl) _ neqO gh 0 d.N c gh' 0 d.N c' _ _ W (by rw [len]; exact Nat.le_refl _) (by rw [len]; exact Nat.le_refl _) (by omega) (by omega) (key gh h.ck h.ct h.co) (key gh' h'.ck h'.ct h'.co)
  change Calls Yba.prog 10 _ _ _ at hcon
  refine hcon.mono fun e w' ⟨he, hq⟩ => ⟨?_, hq⟩
  rw [he, allEq_self (fun x => by simp)]

theorem equal_row {f : Nat → Int} {g g' n : Nat} (hn : n ≤ 4096) (h : ∀ i, i < n → W.cell? ⟨g, i, none⟩ = some (.int .i32 (f i))) (h' : ∀ i, i < n → W.cell? ⟨g', i, none⟩ = some (.int .i32 (f i))) (c c' : Nat) :
    (Calls Yba.prog 11 #[.slice (some ⟨g, 0, none⟩) n c, .slice (some ⟨g', 0, none⟩) n c'] W fun e w' => e = .returned (.bool true) ∧ ∃ q, w' = W.drewN q) ∧
    (Calls Yba.prog 12 #[.slice (some ⟨g, 0, none⟩) n c, .slice (some ⟨g', 0, none⟩) n c'] W fun e w' => e = .returned (.bool true) ∧ ∃ q, w' = W.drewN q) := by
  have len : ((List.range n).map f).length = n := by simp
  have get : ∀ j, j < n → ((List.range n).map f)[j]! = f j := fun j hj => by rw [getElem!_pos _ j (by simpa using hj)]; simp
  have key : ∀ g, (∀ i, i < n → W.cell? ⟨g, i, none⟩ = some (.int .i32 (f i))) → ∀ j, j < ((List.range n).map f).length → W.cell? ⟨g, 0 + j, none⟩ = some (Value.int .i32 ((List.range n).map f)[j]!) := by
    intro g h1 j hj
    rw [len] at hj
    rw [get j hj, Nat.zero_add]
    exact h1 j hj
  constructor
  · have hcon := AnyE.slices_Equal Yba.equalI (Value.int .i32) _ (NeqAt.int _ _ .i32) g 0 n c g' 0 n c' _ _ W (by rw [len]; exact Nat.le_refl _) (by rw [len]; exact Nat.le_refl _) (by omega) (by omega) (key g h) (key g' h')
    change Calls Yba.prog 11 _ _ _ at hcon
    refine hcon.mono fun e w' ⟨he, hq⟩ => ⟨?_, hq⟩
    rw [he, allEq_self (fun x => by simp)]
  · have hcon := AnyE.slices_Equal Yba.equalT (Value.int .i32) _ (NeqAt.int _ _ .i32) g 0 n c g' 0 n c' _ _ W (by rw [len]; exact Nat.le_refl _) (by rw [len]; exact Nat.le_refl _) (by omega) (by omega) (key g h) (key g' h')
    change Calls Yba.prog 12 _ _ _ at hcon
    refine hcon.mono fun e w' ⟨he, hq⟩ => ⟨?_, hq⟩
    rw [he, allEq_self (fun x => by simp)]
end

theorem own_slice {W : World} {lo e k n : Nat} {v : Value} {xs : List Value} (h : W.ownsRow lo e k v n xs) (hv : v ≠ .slice none 0 0) : ∃ g cap, v = .slice (some ⟨g, 0, none⟩) n cap ∧ lo ≤ g := by
  rcases h.2 with ⟨rfl, _⟩ | ⟨g, cap, cur, rfl, hl, _⟩
  · exact absurd rfl hv
  · exact ⟨g, cap, rfl, hl⟩

theorem cells_own {W : World} {lo e n g cap : Nat} {f : Nat → Value} (h : W.ownsRow lo e 1 (.slice (some ⟨g, 0, none⟩) n cap) n (rowF f n)) {i : Nat} (hi : i < n) : W.cell? ⟨g, i, none⟩ = some (f i) := by
  rw [World.ownsRow.cellAt h i (by omega), rowF_get _ hi]

/-- slices.Clone of a row of numbers. -/
theorem cloneI_any {W : World} {f : Nat → Int} {g n : Nat} (hn : n ≤ 4096) (h : ∀ i, i < n → W.cell? ⟨g, i, none⟩ = some (.int .i32 (f i))) (c : Nat) :
    (Calls Yba.prog 7 #[.slice (some ⟨g, 0, none⟩) n c] W fun e w' => ∃ g' c', e = .returned (.slice (some ⟨g', 0, none⟩) n c') ∧ (∀ i, i < n → w'.cell? ⟨g', i, none⟩ = some (.int .i32 (f i))) ∧ Below W.heap.size W w') ∧
    (Calls Yba.prog 8 #[.slice (some ⟨g, 0, none⟩) n c] W fun e w' => ∃ g' c', e = .returned (.slice (some ⟨g', 0, none⟩) n c') ∧ (∀ i, i < n → w'.cell? ⟨g', i, none⟩ = some (.int .i32 (f i))) ∧ Below W.heap.size W w') := by
  obtain ⟨i0, hi, hz0, hz1, hz2⟩ := info_parts info21
  obtain ⟨j0, ji, jz0, jz1, jz2⟩ := info_parts info25
  have hc : ∀ j u, (rowF (fun i => .int .i32 (f i)) n)[j]? = some u → W.cell? ⟨g, 0 + j, none⟩ = some u := by
    intro j u hu
    have hj : j < n := by
      have := (List.getElem?_eq_some_iff.1 hu).1
      rw [rowF_len] at this
      exact this
    rw [rowF_get _ hj] at hu
    rw [Nat.zero_add, h j hj]
    exact hu
  constructor
  · have hcon := AnyE.slices_Clone Yba.cloneI i0 _ 1 4 hi hz0 hz1 hz2 rfl (by omega) Yba.sizeOf21 g 0 n c (rowF (fun i => .int .i32 (f i)) n) W (by rw [rowF_len]; omega) (by unfold maxLen; omega) (by omega) hc (rowF_one (fun _ => rfl) n)
    change Calls Yba.prog 7 _ _ _ at hcon
    refine hcon.mono fun e w' ⟨v, he, ho, hv, hb⟩ => ?_
    obtain ⟨g', c', rfl, _⟩ := own_slice ho hv
    exact ⟨g', c', he, fun i hi => cells_own ho hi, hb⟩
  · have hcon := AnyE.slices_Clone Yba.cloneT j0 _ 1 4 ji jz0 jz1 jz2 rfl (by omega) Yba.sizeOf25 g 0 n c (rowF (fun i => .int .i32 (f i)) n) W (by rw [rowF_len]; omega) (by unfold maxLen; omega) (by omega) hc (rowF_one (fun _ => rfl) n)
    change Calls Yba.prog 8 _ _ _ at hcon
    refine hcon.mono fun e w' ⟨v, he, ho, hv, hb⟩ => ?_
    obtain ⟨g', c', rfl, _⟩ := own_slice ho hv
    exact ⟨g', c', he, fun i hi => cells_own ho hi, hb⟩

/-- .. of the history. -/
theorem cloneH_any {W : World} {d : Dat} {gh : Nat} (ok : d.Ok) (ck : ∀ i, i < d.N → W.cell? ⟨gh, i * 3, none⟩ = some (.int .u8 (d.K i))) (ct : ∀ i, i < d.N → W.cell? ⟨gh, i * 3 + 1, none⟩ = some (.int .i32 (d.V (d.T i)))) (co : ∀ i, i < d.N → W.cell? ⟨gh, i * 3 + 2, none⟩ = some (.string (d.O i))) (c : Nat) :
    Calls Yba.prog 6 #[.slice (some ⟨gh, 0, none⟩) d.N c] W fun e w' => ∃ g' c', e = .returned (.slice (some ⟨g', 0, none⟩) d.N c') ∧ ((∀ i, i < d.N → w'.cell? ⟨g', i * 3, none⟩ = some (.int .u8 (d.K i))) ∧ (∀ i, i < d.N → w'.cell? ⟨g', i * 3 + 1, none⟩ = some (.int .i32 (d.V (d.T i)))) ∧ ∀ i, i < d.N → w'.cell? ⟨g', i * 3 + 2, none⟩ = some (.string (d.O i))) ∧ Below W.heap.size W w' := by
  obtain ⟨i0, hi, hz0, hz1, hz2⟩ := info_parts info32
  have hN := ok.hN
  have hl : ∀ i, ((d.op i).cells).length = 3 := fun _ => rfl
  have hc : ∀ j u, (flatK (fun i => (d.op i).cells) d.N)[j]? = some u → W.cell? ⟨gh, 0 + j, none⟩ = some u := by
    intro j u hu
    have hj : j < d.N * 3 := by
      have := (List.getElem?_eq_some_iff.1 hu).1
      rw [flatK_len hl] at this
      exact this
    obtain ⟨i, q, rfl, hq⟩ : ∃ i q, j = i * 3 + q ∧ q < 3 := ⟨j / 3, j % 3, by omega, by omega⟩
    have hi' : i < d.N := by omega
    rw [flatK_get hl hi' hq] at hu
    rw [Nat.zero_add]
    match q, hq with
    | 0, _ => simp [Opn.cells, Dat.op] at hu; subst hu; exact ck i hi'
    | 1, _ => simp [Opn.cells, Dat.op] at hu; subst hu; exact ct i hi'
    | 2, _ => simp [Opn.cells, Dat.op] at hu; subst hu; exact co i hi'
  have one : ∀ n, ∀ v ∈ flatK (fun i => (d.op i).cells) n, v.oneCell' = true := by
    intro n
    induction n with
    | zero => simp [flatK]
    | succ n ih =>
      intro v hv
      simp only [flatK, List.mem_append] at hv
      rcases hv with hv | hv
      · exact ih v hv
      · simp only [Opn.cells, List.mem_cons, List.not_mem_nil, or_false] at hv
        rcases hv with rfl | rfl | rfl <;> rfl
  have hcon := AnyE.slices_Clone Yba.cloneH i0 _ 3 24 hi hz0 hz1 hz2 rfl (by omega) Yba.sizeOf32 gh 0 d.N c (flatK (fun i => (d.op i).cells) d.N) W (flatK_len hl _) (by unfold maxLen; omega) (by omega) hc (one _)
  change Calls Yba.prog 6 _ _ _ at hcon
  refine hcon.mono fun e w' ⟨v, he, ho, hv, hb⟩ => ?_
  obtain ⟨g', c', rfl, _⟩ := own_slice ho hv
  have get : ∀ i q, i < d.N → q < 3 → w'.cell? ⟨g', i * 3 + q, none⟩ = ((d.op i).cells)[q]? := fun i q hi hq => by
    rw [World.ownsRow.cellAt ho _ (by omega), flatK_get hl hi hq]
  exact ⟨g', c', he, ⟨fun i hi => by simpa [Opn.cells, Dat.op] using get i 0 hi (by omega), fun i hi => by simpa [Opn.cells, Dat.op] using get i 1 hi (by omega), fun i hi => by simpa [Opn.cells, Dat.op] using get i 2 hi (by omega)⟩, hb⟩
end Go.Proofs.Ybulkfhsm.A
