/-
  The told card of 'LawS7960AWhole'.
-/
import Derived.Test.YbulkfhveFmtRCards
import Derived.Test.YbulkfhveFmtRAOpen
import Derived.ProofKit
import Derived.OpenShut
import Derived.ShutString
import Derived.ChangeOld
import Derived.Below
import Derived.Stop.JoinedAt
import Derived.Stop.Texts
import Derived.Stop.JoinedTold
import Derived.SevenToldRow
namespace Go.Proofs.YbulkfhveFmtR.lawS7960AWhole
open Go.ChangeShapes Go.WideShapes Go.ChangeAt Go.RowKit Go.Kit
open Go.Extern.Stop Go.Stop Go.Extern
open A

theorem own : ownKnob Ybaf.prog.godebug = none := by kernel_rfl
theorem laidOut : laidOutB Ybaf.pinned.checked.prog = true := by kernel_rfl

set_option maxRecDepth 100000 in
theorem lifted (os : Os) (started : os.Started) (H : Type) (enc : TypeId × Value → H) :
    ReturnsInTold none {} Ybaf.checked os 3 .any Input.okWide ((OpenSpec.ofChange Rows.lawS7960AWholeSpec).preRow enc Ybaf.prog Ybaf.f3 [] false []) (fun F => ((OpenSpec.ofChange Rows.lawS7960AWholeSpec).at F).post enc Ybaf.prog Ybaf.f3 false true false false) (aloneAtReturn Ybaf.prog) nothingAlways := by
  refine returnsInTold_of_row (C := Ybaf.checked) (s := OpenSpec.ofChange Rows.lawS7960AWholeSpec) (by kernel_rfl) own started (by kernel_rfl) Ybaf.func3
    (OpenSpec.witness_stopped (enc := enc) (C := Ybaf.checked) false ⟨#[], #[.int .u8 0, .int .u8 0, .agg #[.int .u8 0, .slice none 0 0], .bool false, .agg #[.int .u8 0, .slice none 0 0], .int .u8 0, .int .i64 0, .bool false], []⟩ 8 (by kernel_rfl) (by kernel_rfl) (by kernel_rfl) (by kernel_rfl)) ?_
  intro F W base args ds gs before _ hF hval0 hW _ _ _ _ _
  have hval : ∀ (j : Nat) t v, Ybaf.f3.params[j]? = some t → args[j]? = some v → Value.okWide Ybaf.prog W .any base t v := hval0
  have hW' := hW
  obtain ⟨p, q, hA0, hV, rfl, _, _⟩ := hW
  have hA : DataW.TrodAll enc Ybaf.prog W 0 (fun _ => true) true Ybaf.f3.params.toList args.toList ds p := hA0
  rw [Ybaf.params3] at hA hval
  obtain ⟨v0, vs0, d0, ds0, p0, q0, hargs, rfl, rfl, h0, r0⟩ := trodAll_cons hA
  obtain ⟨v1, vs1, d1, ds1, p1, q1, rfl, rfl, rfl, h1, r1⟩ := trodAll_cons r0
  obtain ⟨v2, vs2, d2, ds2, p2, q2, rfl, rfl, rfl, h2, r2⟩ := trodAll_cons r1
  obtain ⟨v3, vs3, d3, ds3, p3, q3, rfl, rfl, rfl, h3, r3⟩ := trodAll_cons r2
  obtain ⟨v4, vs4, d4, ds4, p4, q4, rfl, rfl, rfl, h4, r4⟩ := trodAll_cons r3
  obtain ⟨v5, vs5, d5, ds5, p5, q5, rfl, rfl, rfl, h5, r5⟩ := trodAll_cons r4
  obtain ⟨v6, vs6, d6, ds6, p6, q6, rfl, rfl, rfl, h6, r6⟩ := trodAll_cons r5
  obtain ⟨v7, vs7, d7, ds7, p7, q7, rfl, rfl, rfl, h7, r7⟩ := trodAll_cons r6
  obtain ⟨rfl, rfl, rfl⟩ := trodAll_nil r7
  obtain rfl : args = #[v0, v1, v2, v3, v4, v5, v6, v7] := by cases args; simp_all
  obtain ⟨rfl, rfl⟩ := trodVars_none hV
  obtain ⟨ld, rfl, rfl, rfl, w0⟩ := open_int Ybaf.underlying5 (hval 0 5 v0 rfl rfl) h0
  obtain ⟨md, rfl, rfl, rfl, w1⟩ := open_int Ybaf.underlying5 (hval 1 5 v1 rfl rfl) h1
  obtain ⟨cs2, rfl, _, _⟩ : ∃ cs, v2 = .agg cs ∧ cs.size = Ybaf.prog.cellsOf 24 ∧ Row.okWide Ybaf.prog W .any base 24 cs := by
    have := hval 2 24 v2 rfl rfl
    simpa [Value.okWide, Ybaf.underlying24] using this
  obtain ⟨pow, rfl, rfl, rfl⟩ := open_bool Ybaf.underlying4 (hval 3 4 v3 rfl rfl) h3
  obtain ⟨cs4, rfl, _, _⟩ : ∃ cs, v4 = .agg cs ∧ cs.size = Ybaf.prog.cellsOf 24 ∧ Row.okWide Ybaf.prog W .any base 24 cs := by
    have := hval 4 24 v4 rfl rfl
    simpa [Value.okWide, Ybaf.underlying24] using this
  obtain ⟨tl, rfl, rfl, rfl, w5⟩ := open_int Ybaf.underlying5 (hval 5 5 v5 rfl rfl) h5
  obtain ⟨dep, rfl, rfl, rfl, w6⟩ := open_int Ybaf.underlying3 (hval 6 3 v6 rfl rfl) h6
  obtain ⟨sub, rfl, rfl, rfl⟩ := open_bool Ybaf.underlying4 (hval 7 4 v7 rfl rfl) h7
  have k2 := h2
  have k4 := h4
  have lt2 : ∀ x ∈ p2, x.block < W.heap.size := by obtain ⟨m, hm⟩ := k2; exact DataW.trod_lt m _ _ _ hm
  have lt4 : ∀ x ∈ p4, x.block < W.heap.size := by obtain ⟨m, hm⟩ := k4; exact DataW.trod_lt m _ _ _ hm
  obtain ⟨f2, hf2⟩ := h2
  obtain ⟨f4, hf4⟩ := h4
  obtain ⟨kk1, pa1, s1, pc1, e2, hs1⟩ := prim_open hf2
  obtain ⟨kk2, pa2, s2, pc2, e4, hs2⟩ := prim_open hf4
  have e2' : cs2 = #[.int .u8 (kk1.toNat : Int), .slice pa1 s1.length pc1] := by
    have : cs2.toList = [.int .u8 (kk1.toNat : Int), .slice pa1 s1.length pc1] := e2
    exact Array.ext' this
  have e4' : cs4 = #[.int .u8 (kk2.toNat : Int), .slice pa2 s2.length pc2] := by
    have : cs4.toList = [.int .u8 (kk2.toNat : Int), .slice pa2 s2.length pc2] := e4
    exact Array.ext' this
  subst e2' e4'
  clear hA0 hval0
  have hlaw := law_walk (ld := toB ld) (md := toB md) (tl := toB tl) (pow := pow) (dep := dep) (sub := sub) (k1 := kk1) (k2 := kk2) (pc1 := pc1) (pc2 := pc2) hs1 hs2
  rw [toB_nat w0, toB_nat w1, toB_nat w5] at hlaw
  refine hlaw.mono fun e W' ⟨he, bel⟩ => ?_
  subst he
  exact ⟨_, rfl, _, _, _, [], _, [], hW', trodAll_mk1 (shut_bool Ybaf.underlying4 _), (trodAll_cons_mk (shut_int Ybaf.underlying5 w0) (trodAll_cons_mk (shut_int Ybaf.underlying5 w1) (trodAll_cons_mk (Below.trod laidOut (by kernel_rfl) (of_decide_eq_true (by kernel_rfl)) k2 bel lt2) (trodAll_cons_mk (shut_bool Ybaf.underlying4 _) (trodAll_cons_mk (Below.trod laidOut (by kernel_rfl) (of_decide_eq_true (by kernel_rfl)) k4 bel lt4) (trodAll_cons_mk (shut_int Ybaf.underlying5 w5) (trodAll_cons_mk (shut_int Ybaf.underlying3 w6) (trodAll_cons_mk (shut_bool Ybaf.underlying4 _) trodAll_mk0)))))))), rfl, bel.frame _, fun h => by cases h⟩

theorem stops : Ybaf.pinned.checked.prog.stops = ["fmt.Sprintf, its operands' methods called"] := by kernel_rfl
theorem stopKnobs : Ybaf.pinned.checked.prog.stopKnobs = [] := by kernel_rfl
theorem quiet (os : Os) : Stop.quiet Ybaf.pinned.checked.prog os := by
  intro k hk
  rw [stopKnobs] at hk
  cases hk

theorem over : Claim7.holds Ybaf.pinned (.plain (OpenSpec.ofChange Rows.lawS7960AWholeSpec)) (Claim7.toldRow Rows.lawS7960AWholeRow (true, "7295b674d58e7bae2f07ca0e4b5f87827e953a97dab83aa0a74f1bf9db997461") false false) :=
  Claim7.holds_of_told_any 3 Ybaf.f3 "fmt.Sprintf, its operands' methods called" [] [] _ _ _ (by kernel_rfl) rfl rfl rfl laidOut (by kernel_rfl) rfl ⟨rfl, rfl, rfl, rfl, rfl, rfl, rfl⟩ rfl rfl (by kernel_rfl) (by kernel_rfl) Ybaf.func3 (by kernel_rfl)
    (of_decide_eq_true (by kernel_rfl)) (of_decide_eq_true (by kernel_rfl)) stops.symm rfl stopKnobs.symm (by kernel_rfl)
    (by kernel_rfl) (by kernel_rfl) (by kernel_rfl) (by kernel_rfl) (by kernel_rfl) (by kernel_rfl) (by kernel_rfl) (by kernel_rfl) (by kernel_rfl) rfl (by kernel_rfl) rfl rfl
    rfl rfl
    rfl (by kernel_rfl) (by kernel_rfl) (by kernel_rfl) (by decide) (by kernel_rfl)
    (OpenClaim.moreEntering_of (by kernel_rfl) (by kernel_rfl) (by kernel_rfl) (by kernel_rfl) (by kernel_rfl) (by kernel_rfl) (by kernel_rfl) (by kernel_rfl) (by kernel_rfl) (by kernel_rfl))
    ⟨_, WideRow.started_initial, quiet _⟩
    (fun os started _ H enc _ => lifted os started H enc)

theorem proved : Rows.LawS7960AWholeToldSaid := over
end Go.Proofs.YbulkfhveFmtR.lawS7960AWhole
