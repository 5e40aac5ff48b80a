/-
  The walk of the law B: the heap of the senders.
-/
import Derived.Test.YbulkfhtaBLawB
namespace Go.Proofs.Ybulkfhta.B
open Go.RowKit
attribute [local go_sem ↓] Go.wp_at_zero Go.wp_at_succ

/-- The heap's dues are the dues given so far. -/
def Cov (k : Nat) (p : Nat → Nat) (D xs : Nat → Int) : Prop := (∀ i, i < k → ∃ q, q < k ∧ D (p q) = xs i) ∧ ∀ q, q < k → ∃ i, i < k ∧ D (p q) = xs i
def putD (D : Nat → Int) (b : Nat) (n : Int) : Nat → Int := fun c => if c = b then n else D c

theorem ord_min {k : Nat} {p : Nat → Nat} {D : Nat → Int} (h : Ord k p D) : ∀ q, q < k → D (p 0) ≤ D (p q) := by
  intro q
  induction q using Nat.strongRecOn with
  | _ q ih =>
    intro hq
    by_cases e : q = 0
    · subst e; exact Int.le_refl _
    · have h1 := h q (by omega) hq
      have h2 := ih ((q - 1) / 2) (by omega) (by omega)
      omega

theorem Hp.dues {W : World} {hb ho k : Nat} {hdr : Value} {p : Nat → Nat} {D D' : Nat → Int} (h : Hp W hb ho hdr k p D) (e : ∀ q, q < k → D' (p q) = D (p q)) : Hp W hb ho hdr k p D' :=
  ⟨h.hd, h.fz, h.own, fun q hq => by rw [e q hq]; exact h.snd q hq, h.up⟩

theorem push_new {W w1 : World} {L j : Nat} {hdr nm ag ix : Value} {i0 : Int} {p : Nat → Nat} {D xs : Nat → Int} (h : Hp W L 10 hdr j p D) (hO : Ord j p D) (hC : Cov j p D xs) (hb : Below W.heap.size W w1) (hj : j ≤ 65536) (ei : ix = .int .i64 i0) :
    Calls Yba.prog 8 #[.pointer (some ⟨L, 10, none⟩), .pointer (some ⟨w1.heap.size, 0, none⟩)] (w1.alloc (.cells #[nm, ag, .int .u64 (xs j % 1000000000), .int .i64 (xs j / 1000000000), .pointer none, ix] 54)) fun e w' => e = .returned (.tuple #[]) ∧ ∃ hdr' p' D', Hp w' L 10 hdr' (j + 1) p' D' ∧ Ord (j + 1) p' D' ∧ Cov (j + 1) p' D' xs ∧ Fr L 10 W w' := by
  subst ei
  have hne : ∀ q, q < j → p q ≠ w1.heap.size := fun q hq e => by
    obtain ⟨_, _, _, hs⟩ := h.snd q hq
    have := hs.lt
    have := hb.size
    omega
  have lL : L < W.heap.size := World.block_lt_of_cell? _ _ h.hd
  have ls := hb.size
  have eD : ∀ q, q < j → putD D w1.heap.size (xs j) (p q) = D (p q) := fun q hq => by unfold putD; rw [if_neg (hne q hq)]
  have h1 := ((h.grown (below_size hb)).grown (World.grownBy_alloc w1 (.cells #[nm, ag, .int .u64 (xs j % 1000000000), .int .i64 (xs j / 1000000000), .pointer none, .int .i64 i0] 54) none)).dues eD
  have hO1 : Ord j p (putD D w1.heap.size (xs j)) := fun i a b => by rw [eD _ (by omega), eD _ b]; exact hO i a b
  have hs : Snd (w1.alloc (.cells #[nm, ag, .int .u64 (xs j % 1000000000), .int .i64 (xs j / 1000000000), .pointer none, .int .i64 i0] 54)) w1.heap.size (putD D w1.heap.size (xs j) w1.heap.size) := by
    unfold putD
    rw [if_pos rfl]
    exact ⟨nm, ag, i0, Blk.new _ _ _⟩
  refine (push_any h1 hO1 hs (by omega) hj).mono ?_
  rintro e w' ⟨rfl, hdr', p', h2, hO2, hS, hF⟩
  refine ⟨rfl, hdr', p', _, h2, hO2, ⟨fun i hi => ?_, fun q hq => ?_⟩, (Fr.of_below ((hb.mono (by omega)).alloc (by omega) _)).trans hF⟩
  · by_cases e : i = j
    · subst e
      obtain ⟨q, hq, eq⟩ := hS.2 i (by omega)
      refine ⟨q, hq, ?_⟩
      rw [eq]
      simp [putN, putD]
    · obtain ⟨r, hr, er⟩ := hC.1 i (by omega)
      obtain ⟨q, hq, eq⟩ := hS.2 r (by omega)
      refine ⟨q, hq, ?_⟩
      rw [eq]
      unfold putN
      rw [if_neg (by omega), eD r hr, er]
  · obtain ⟨r, hr, er⟩ := hS.1 q hq
    rw [er]
    by_cases e : r = j
    · exact ⟨j, by omega, by simp [putN, putD, e]⟩
    · obtain ⟨i, hi, ei⟩ := hC.2 r (by omega)
      refine ⟨i, by omega, ?_⟩
      unfold putN
      rw [if_neg e, eD r (by omega), ei]

theorem Inp.due {W W' : World} {L k : Nat} {x : Ld} {hdr : Value} {p : Nat → Nat} {D : Nat → Int} (h : Inp W L x) (e1 : x.rh = .slice none 0 0) (e2 : x.m = 0) (hF : Fr L 10 W W') (hp : Hp W' L 10 hdr k p D) : Inp W' L { x with n := k, hdr := hdr, p := p, D := D } := by
  refine ⟨hp, (hF.cell 0 (by decide)).trans h.c0, (hF.cell 1 (by decide)).trans h.c1, (hF.cell 2 (by decide)).trans h.c2, (hF.cell 3 (by decide)).trans h.c3, (hF.cell 4 (by decide)).trans h.c4, (hF.cell 11 (by decide)).trans h.c11, (hF.cell 12 (by decide)).trans h.c12, (hF.cell 13 (by decide)).trans h.c13, (hF.cell 14 (by decide)).trans h.c14, (hF.cell 15 (by decide)).trans h.c15, (hF.cell 16 (by decide)).trans h.c16, ?_⟩
  show W'.ownsRow (L + 1) 56 4 x.rh x.m (rowR x.R x.m)
  rw [e1, e2]
  exact World.ownsRow_nil _ _ _ _

set_option maxRecDepth 100000 in
set_option maxHeartbeats 16000000 in
theorem part_8 {w W : World} {L q0 q5 : Nat} {x : Ld} {a0 a5 : Option Addr} {xs : Nat → Int} {n m : Nat} {ys : Nat → Int} {u1 u2 u3 u4 u7 u8 u9 u10 u11 u12 u13 u14 u20 u21 u22 u23 u24 u25 u26 u27 u28 u29 u30 u31 u32 u33 u34 u35 u36 u37 u38 u39 u40 u41 u42 u43 u44 u45 u46 u47 u48 u49 u50 u51 u52 u53 u54 u55 u56 u57 u58 u59 u60 u61 u62 u63 u64 u65 u66 u67 u68 u69 u70 u71 u72 u73 u74 u75 u76 u77 u78 u79 u80 u81 u82 u83 u84 u85 u86 u87 u88 u89 u90 u91 u92 u93 u94 u95 u96 u97 u98 u99 u100 u101 u102 u103 u104 u105 u106 u107 u108 u109 u110 u111 u112 u113 u114 u115 u116 u117 u118 u119 u120 u121 u122 u123 u124 u125 u126 u127 u128 u129 u130 u131 u132 u133 u134 u135 u136 u137 u138 u139 u140 u141 u142 u143 u144 u145 u146 u147 u148 u149 u150 u151 u152 u153 u154 u155 u156 u157 u158 u159 u160 u161 u162 u163 u164 u165 u166 u167 u168 u169 u170 u171 u172 u173 u174 u175 u176 u177 u178 u179 u180 u181 u182 u183 u184 u185 u186 u187 u188 u189 u190 u191 u192 u193 u194 u195 u196 u197 u198 u199 u200 u201 u202 u203 u204 u205 u206 u207 u208 u209 u210 u211 u212 u213 u214 u215 u216 u217 u218 u219 u220 u221 u222 u223 u224 u225 u226 u227 u228 u229 u230 u231 u232 u233 u234 u235 u236 u237 u238 u239 u240 u241 u242 u243 u244 u245 u246 u247 u248 u249 u250 u251 u252 u253 u254 u255 u256 u257 u258 u259 u260 u261 u262 u263 u264 u265 u266 u267 u268 u269 u270 u271 u272 u273 u274 : Value} (h : Inp W L x) (e0 : x.n = 0) (e1 : x.rh = .slice none 0 0) (e2 : x.m = 0) (hsum : n + m ≤ 65536) (hk : x.k < 42) (hnS : x.nS < 40) (hd : -1073741824 < x.d ∧ x.d < 1073741824) (hsf : -4611686018427387904 < x.sf ∧ x.sf < 4611686018427387904) (wx : ∀ i, i < n → wf64 (xs i)) (wy : ∀ i, i < m → wf64 (ys i)) (g0 : Given w a0 n xs) (g5 : Given w a5 m ys) (bel : Below w.heap.size w W) (hwL : w.heap.size ≤ L) (hfz : W.frozen? ⟨L, 11, none⟩ = false) :
    Code.wp Yba.prog (piece Yba.f4.body 8) (bodyPost Yba.prog Yba.f4 (Yes w)) ⟨#[.slice a0 n q0, u1, u2, u3, u4, .slice a5 m q5, .bool x.lv, u7, u8, u9, u10, u11, u12, u13, u14, .int .i64 x.sf, .int .i64 (x.nS : Int), .int .i64 (x.k : Int), .int .i64 x.d, .pointer (some ⟨L, 0, none⟩), u20, u21, u22, u23, u24, u25, u26, u27, u28, u29, u30, u31, u32, u33, u34, u35, u36, u37, u38, u39, u40, u41, u42, u43, u44, u45, u46, u47, u48, u49, u50, u51, u52, u53, u54, u55, u56, u57, u58, u59, u60, u61, u62, u63, u64, u65, u66, u67, u68, u69, u70, u71, u72, u73, u74, u75, u76, u77, u78, u79, u80, u81, u82, u83, u84, u85, u86, u87, u88, u89, u90, u91, u92, u93, u94, u95, u96, u97, u98, u99, u100, u101, u102, u103, u104, u105, u106, u107, u108, u109, u110, u111, u112, u113, u114, u115, u116, u117, u118, u119, u120, u121, u122, u123, u124, u125, u126, u127, u128, u129, u130, u131, u132, u133, u134, u135, u136, u137, u138, u139, u140, u141, u142, u143, u144, u145, u146, u147, u148, u149, u150, u151, u152, u153, u154, u155, u156, u157, u158, u159, u160, u161, u162, u163, u164, u165, u166, u167, u168, u169, u170, u171, u172, u173, u174, u175, u176, u177, u178, u179, u180, u181, u182, u183, u184, u185, u186, u187, u188, u189, u190, u191, u192, u193, u194, u195, u196, u197, u198, u199, u200, u201, u202, u203, u204, u205, u206, u207, u208, u209, u210, u211, u212, u213, u214, u215, u216, u217, u218, u219, u220, u221, u222, u223, u224, u225, u226, u227, u228, u229, u230, u231, u232, u233, u234, u235, u236, u237, u238, u239, u240, u241, u242, u243, u244, u245, u246, u247, u248, u249, u250, u251, u252, u253, u254, u255, u256, u257, u258, u259, u260, u261, u262, u263, u264, u265, u266, u267, u268, u269, u270, u271, u272, u273, u274], []⟩ W := by
  conv => arg 2; whnf; dsimp only
  have HWX := hide wx
  have HWY := hide wy
  have HG0 := hide g0
  have HG5 := hide g5
  have n0 : (0 : Int) ≤ (n : Int) := by omega
  have n1 : (n : Int) ≤ 65536 := by omega
  have KE : ∀ W', Fr L 10 W W' → Below w.heap.size w W' := fun W' hF => bel.trans (hF.bel.mono hwL)
  have HKE := hide KE
  have hp0 : Hp W L 10 x.hdr 0 x.p x.D := by have := h.hp; rw [e0] at this; exact this
  have HINP := hide h
  have HE1 := hide e1
  have HE2 := hide e2
  have HFZ := hide hfz
  clear wx wy g0 g5 KE bel h e0 e1 e2 hfz
  go_upto_block 0 with (fail)
  go_cut [21] from 62 to 76 (fun _ W' => ∃ hdr p D, Hp W' L 10 hdr n p D ∧ Ord n p D ∧ Cov n p D xs ∧ Fr L 10 W W')
  case first =>
    go_wp2_with fail
    go_loopw [21, 64] (fun _ y W' => ∃ (j : Nat) (hdr : Value) (p : Nat → Nat) (D : Nat → Int), y = .int .i64 (j : Int) ∧ j ≤ n ∧ Hp W' L 10 hdr j p D ∧ Ord j p D ∧ Cov j p D xs ∧ Fr L 10 W W') (fun _ y _ => n - (intOf y).toNat)
    case atStart => exact ⟨0, _, _, _, rfl, by omega, hp0, fun i _ hi => by omega, ⟨fun i hi => by omega, fun i hi => by omega⟩, Fr.refl _ _ _⟩
    case round =>
      clear hp0
      obtain ⟨j, hdr, p, D, rfl, hj, hp, hO, hC, hF⟩ := hrel
      have HO := hide hO
      have HC := hide hC
      clear hO hC
      have j0 : (0 : Int) ≤ (j : Int) := by omega
      have j2 : (j : Int) ≤ 65536 := by omega
      by_cases hlt : j < n
      · have j1 : (j : Int) < (n : Int) := by omega
        obtain ⟨b, off, rfl⟩ := HG0.out.form (by omega)
        have q0 := (HG0.out.below (HKE.out _ hF)).cell b off rfl j hlt
        have hbat := bat_any (W := wr.drew) (HWX.out j hlt).1 (HWX.out j hlt).2
        unfold tv at hbat
        have HBT := hide hbat
        clear hbat
        have HHP := hide hp
        clear hp
        go_upto_region 11 with (fail)
        clear q0
        go_region_with (first | (go_at_call 7; refine HBT.out.mono ?_; rintro e w1 ⟨rfl, hb1⟩) | (go_at_call 8; refine (push_new HHP.out HO.out HC.out (below_undrew (q := 1) hb1) (by omega) rfl).mono ?_; rintro e w2 ⟨rfl, hdr', p', D', hp2, hO2, hC2, hF2⟩; have HO2 := hide hO2; have HC2 := hide hC2; have HP2 := hide hp2; clear hO2 hC2 hp2))
        all_goals
          go_wp2
          exact ⟨⟨j + 1, hdr', p', D', by go_num, by omega, HP2.out, HO2.out, HC2.out, hF.trans hF2⟩, by simp [intOf]; omega⟩
      · have j1 : ¬ (j : Int) < (n : Int) := by omega
        obtain rfl : j = n := by omega
        go_wp2
        go_meet
        case rel => exact ⟨hdr, p, D, hp, HO.out, HC.out, hF⟩
  case rest =>
  clear hp0
  obtain ⟨hdr, p, D, hp, hO, hC, hF⟩ := hcut
  have h1 := HINP.out.due HE1.out HE2.out hF hp
  rename_i hK
  refine hK _ _ (part_13 (x := { x with n := n, hdr := hdr, p := p, D := D }) (fun rh => ⟨⟨by show n ≤ 65536; omega, by show m ≤ 65536; omega, hk, hnS, hd.1, hd.2, hsf.1, hsf.2⟩, hsum, HWX.out, HWY.out, fun h0 => hC.2 0 h0, fun i hi => ?_⟩) h1 HG0.out HG5.out (HKE.out _ hF) hwL ((hF.fz 11).trans HFZ.out))
  obtain ⟨q, hq, eq⟩ := hC.1 i hi
  have := ord_min hO q hq
  show D (p 0) ≤ xs i
  omega
end Go.Proofs.Ybulkfhta.B
