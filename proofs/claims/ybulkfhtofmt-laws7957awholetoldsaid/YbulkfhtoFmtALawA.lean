/-
  The walk of the law A: the text that is wanted.
-/
import Derived.Test.YbulkfhtoFmtALawB
namespace Go.Proofs.YbulkfhtoFmt.A
open Go.RowKit Go.Extern.Stop Go.Stop Go.Extern
attribute [local go_sem ↓] Go.wp_at_zero Go.wp_at_succ

theorem len_dec {u : Nat} (h : u < 18446744073709551616) : (Go.Lib.decDigits u).length ≤ 21 := by
  have := FmtText.itoa_length_le (k := .u64) (x := (u : Int)) (by simp [Lit.wf, IntKind.min, IntKind.max, IntKind.signed, IntKind.bits]; omega)
  rwa [show Go.Lib.itoa (u : Int) = Go.Lib.decDigits u by unfold Go.Lib.itoa; rw [if_neg (by omega)]; simp] at this
theorem wf_i64 {n : Int} (h : (Lit.int .i64 n).wf = true) : -9223372036854775808 ≤ n ∧ n ≤ 9223372036854775807 := by
  simp [Lit.wf, IntKind.min, IntKind.max, IntKind.signed, IntKind.bits] at h
  exact h
/-- The word of the context's line. -/
def sCon : List UInt8 := [99, 111, 110, 116, 101, 120, 116, 32]
theorem sCon_len : sCon.length = 8 := rfl
theorem Xs.lt {W : World} {pa : Option Addr} {t : List UInt8} {pc : Nat} (h : Xs W pa t pc) (ht : 0 < t.length) : ∀ x, pa = some x → x.block < W.heap.size := fun x e => by
  have := World.block_lt_of_cell? _ _ (h.cell x e 0 _ (bc_get t ht))
  rwa [add_block] at this
theorem vecs_len {W : World} {D : Dat} (h : Good W D) : ∀ j, j ≤ D.m → (tVecs D.zs j).length ≤ j * 3000010
  | 0, _ => by simp [tVecs]
  | j + 1, hj => by
    have ih := vecs_len h j (by omega)
    obtain ⟨_, _, _, _, hz, _⟩ := h.vec j (by omega)
    have := hz.tlen
    have e : sVec.length = 7 := rfl
    simp only [tVecs, tVec, List.length_append, List.length_cons, List.length_nil]
    omega
theorem vec_range {W : World} {D : Dat} (h : Good W D) {j b off : Nat} (hj : j < D.m) (e : D.va = some ⟨b, off, none⟩) : W.rangeAt b (off + j * 65) (D.zs j).cells := by
  obtain ⟨b', off', e', r, _⟩ := h.vec j hj
  rw [e] at e'
  cases e'
  exact r
theorem itoa_nat (u : Nat) : Go.Lib.itoa (u : Int) = Go.Lib.decDigits u := by unfold Go.Lib.itoa; rw [if_neg (by omega)]; simp

set_option maxRecDepth 100000 in
set_option maxHeartbeats 16000000 in
theorem part_24 {w W : World} {D : Dat} {p : Pl} {q0 : Qn} {qs : Nat → Qn} {c11 c13 : Nat} {B1 : Nat} {gv : Value} {u3 u5 u8 u9 u10 u12 u14 u15 u16 u17 u18 u20 u22 u23 u24 u25 u26 u27 u28 u29 u30 u31 u32 u33 u34 u35 u36 u37 u38 u39 u40 u41 u42 u43 u44 u45 u46 u47 u48 u49 u50 u51 u52 u53 u54 u55 u56 u57 u58 u59 u60 u61 u62 u63 u64 u65 u66 u67 u68 u69 u70 u71 u72 u73 u74 u75 u76 u77 u78 u79 u80 u81 u82 u83 u84 u85 u86 u87 u88 u89 u90 u91 u92 u93 u94 u95 u96 u97 u98 u99 u100 u101 u102 u103 u104 u105 u106 u107 u108 u109 u110 u111 u112 u113 u114 u115 u116 u117 u118 u119 u120 u121 u122 u123 u124 u125 u126 u127 u128 u129 u130 u131 u132 u133 u134 u135 u136 u137 u138 u139 u140 u141 u142 u143 u144 u145 u146 u147 u148 u149 u150 u151 u152 u153 u154 u155 u156 u157 u158 u159 u160 u161 u162 u163 u164 u165 u166 u167 u168 u169 u170 u171 u172 u173 u174 u175 u176 u177 u178 u179 u180 u181 u182 u183 u184 u185 u186 u187 u188 u189 u190 u191 u192 u193 u194 u195 u196 u197 u198 u199 u200 u201 u202 u203 u204 u205 u206 u207 u208 u209 u210 u211 u212 u213 u214 u215 u216 u217 u218 u219 u220 u221 u222 u223 u224 u225 u226 u227 u228 u229 u230 u231 u232 u233 u234 u235 u236 u237 u238 u239 u240 u241 u242 u243 u244 u245 u246 u247 u248 u249 u250 u251 u252 u253 u254 u255 u256 u257 u258 u259 u260 u261 u262 u263 u264 u265 u266 u267 u268 u269 u270 u271 u272 u273 u274 u275 u276 u277 u278 u279 u280 u281 u282 u283 u284 u285 u286 u287 u288 u289 u290 u291 u292 u293 u294 u295 u296 u297 u298 u299 u300 u301 u302 u303 u304 u305 u306 u307 u308 u309 u310 u311 u312 u313 u314 u315 u316 u317 u318 u319 u320 u321 : Value} (h : Env w W D p q0 qs c11 c13) (hg : Row W B1 gv (tWant D)) :
    Code.wp Ybaf.prog (piece Ybaf.f3.body 24) (bodyPost Ybaf.prog Ybaf.f3 (Yes w)) ⟨#[.int .i64 D.x, .bool D.rs, .bool D.hc, u3, .bool D.ho, u5, .int .i64 D.ok, .slice D.va D.m D.vcap, u8, u9, u10, .pointer (some ⟨c11, 0, none⟩), u12, .pointer (some ⟨c13, 0, none⟩), u14, u15, u16, u17, u18, .pointer (some ⟨p.n, 0, none⟩), u20, gv, u22, u23, u24, u25, u26, u27, u28, u29, u30, u31, u32, u33, u34, u35, u36, u37, u38, u39, u40, u41, u42, u43, u44, u45, u46, u47, u48, u49, u50, u51, u52, u53, u54, u55, u56, u57, u58, u59, u60, u61, u62, u63, u64, u65, u66, u67, u68, u69, u70, u71, u72, u73, u74, u75, u76, u77, u78, u79, u80, u81, u82, u83, u84, u85, u86, u87, u88, u89, u90, u91, u92, u93, u94, u95, u96, u97, u98, u99, u100, u101, u102, u103, u104, u105, u106, u107, u108, u109, u110, u111, u112, u113, u114, u115, u116, u117, u118, u119, u120, u121, u122, u123, u124, u125, u126, u127, u128, u129, u130, u131, u132, u133, u134, u135, u136, u137, u138, u139, u140, u141, u142, u143, u144, u145, u146, u147, u148, u149, u150, u151, u152, u153, u154, u155, u156, u157, u158, u159, u160, u161, u162, u163, u164, u165, u166, u167, u168, u169, u170, u171, u172, u173, u174, u175, u176, u177, u178, u179, u180, u181, u182, u183, u184, u185, u186, u187, u188, u189, u190, u191, u192, u193, u194, u195, u196, u197, u198, u199, u200, u201, u202, u203, u204, u205, u206, u207, u208, u209, u210, u211, u212, u213, u214, u215, u216, u217, u218, u219, u220, u221, u222, u223, u224, u225, u226, u227, u228, u229, u230, u231, u232, u233, u234, u235, u236, u237, u238, u239, u240, u241, u242, u243, u244, u245, u246, u247, u248, u249, u250, u251, u252, u253, u254, u255, u256, u257, u258, u259, u260, u261, u262, u263, u264, u265, u266, u267, u268, u269, u270, u271, u272, u273, u274, u275, u276, u277, u278, u279, u280, u281, u282, u283, u284, u285, u286, u287, u288, u289, u290, u291, u292, u293, u294, u295, u296, u297, u298, u299, u300, u301, u302, u303, u304, u305, u306, u307, u308, u309, u310, u311, u312, u313, u314, u315, u316, u317, u318, u319, u320, u321], []⟩ W := by
  conv => arg 2; whnf; dsimp only
  obtain ⟨B, eB⟩ : ∃ B, B = W.heap.size := ⟨_, rfl⟩
  have KE : ∀ W', Below B W W' → Env w W' D p q0 qs c11 c13 ∧ Row W' B1 gv (tWant D) ∧ B ≤ W'.heap.size := fun W' hb => ⟨h.below (by rw [← eB]; exact hb), hg.kept (below_size (by rw [← eB]; exact hb)) (by cases gv.ownBlock <;> simp), by rw [eB]; exact hb.size⟩
  have HK := hide KE
  have hBW : B ≤ W.heap.size := by rw [eB]; exact Nat.le_refl _
  have b11 : c11 < B := by rw [eB]; exact h.b11.lt
  have b13 : c13 < B := by rw [eB]; exact h.b13.lt
  have HGD := hide h.good
  have EB := hide eB
  clear KE eB h hg
  obtain ⟨u, eu, hu⟩ : ∃ u : Nat, IntKind.u64.wrap D.x = (u : Int) ∧ u < 18446744073709551616 := by
    have := wrap_wf D.x
    simp [Lit.wf, IntKind.min, IntKind.max, IntKind.signed, IntKind.bits] at this
    exact ⟨(IntKind.u64.wrap D.x).toNat, by omega, by omega⟩
  have EU := hide eu
  have hlu := len_dec hu
  go_wp2_with (at_builtin; refine app_str (v := .slice none 0 0) (B := B) rfl _ _ rfl rfl (Row.nil _ B) _ rfl (by simp) hBW ?_; intro v1 w1 hr1 hg1 ho1)
  have bel1 : Below B W w1 := Below.grown (Below.refl B W) hg1 hBW (fun k e => by simp [Value.ownBlock] at e)
  refine (dec_any hr1 hu (by simp) (HK.out _ bel1).2.2).mono ?_
  rintro e w2 ⟨v2, rfl, hr2, hg2, ho2⟩
  have bel2 := bel1.grown hg2 (HK.out _ bel1).2.2 (fun k e => (hr1.lt k e).1)
  clear eu
  go_upto_if 120 with (first | (at_builtin; refine app_sl (v := v2) rfl _ _ rfl rfl (hr2.alloc _) [10] _ _ rfl (lies_new _ _ _) (by simp; omega) (by have := (HK.out _ bel2).2.2; simp; omega) ?_; intro v3 w3 hr3 hg3 hn3 ho3; have bel3 := (bel2.alloc (HK.out _ bel2).2.2 _).grown hg3 (by have := (HK.out _ bel2).2.2; simp; omega) (fun k e => (hr2.lt k e).1)) | (at_builtin; refine app_str (v := v3) rfl _ _ rfl rfl hr3 _ rfl (by simp; omega) (HK.out _ bel3).2.2 ?_; intro v4 w4 hr4 hg4 ho4; have bel4 := bel3.grown hg4 (HK.out _ bel3).2.2 (fun k e => (hr3.lt k e).1)))
  go_cut [1, 22] from 120 to 126 (fun b v W' => b = .bool D.rs ∧ Row W' B v ([] ++ [110, 101, 120, 116, 45, 107, 115, 105, 32] ++ Go.Lib.decDigits u ++ [10] ++ [97, 119, 97, 105, 116, 105, 110, 103, 45, 114, 101, 115, 121, 110, 99, 32] ++ [if D.rs then 49 else 48]) ∧ Below B W W')
  case first =>
    cases er : D.rs with
    | true =>
      go_wp2_with (at_builtin; refine app_sl (v := v4) rfl _ _ rfl rfl (hr4.alloc _) [49] _ _ rfl (lies_new _ _ _) (by simp; omega) (by have := (HK.out _ bel4).2.2; simp; omega) ?_; intro v5 w5 hr5 hg5 hn5 ho5)
      go_meet
      case rel => exact ⟨by rw [er], by rw [er]; exact hr5, (bel4.alloc (HK.out _ bel4).2.2 _).grown hg5 (by have := (HK.out _ bel4).2.2; simp; omega) (fun k e => (hr4.lt k e).1)⟩
    | false =>
      go_wp2_with (at_builtin; refine app_sl (v := v4) rfl _ _ rfl rfl (hr4.alloc _) [48] _ _ rfl (lies_new _ _ _) (by simp; omega) (by have := (HK.out _ bel4).2.2; simp; omega) ?_; intro v5 w5 hr5 hg5 hn5 ho5)
      go_meet
      case rel => exact ⟨by rw [er], by rw [er]; exact hr5, (bel4.alloc (HK.out _ bel4).2.2 _).grown hg5 (by have := (HK.out _ bel4).2.2; simp; omega) (fun k e => (hr4.lt k e).1)⟩
  case rest =>
  clear hr1 hr2 hr3 hr4 hg1 hg2 hg3 hg4 ho1 ho2 hn3 ho3 ho4 bel1 bel2 bel3 bel4
  obtain ⟨rfl, hr5, bel5⟩ := hcut
  rename World => w5
  have hLf : (tFields D.x D.rs).length ≤ 2000 := by
    have h1 := FmtText.itoa_length_le (wrap_wf D.x)
    have h2 := FmtText.itoa_length_le (bit_wf D.rs)
    have h3 : sKsi.data.toList.length = 8 := rfl
    have h4 : sRes.data.toList.length = 15 := rfl
    simp only [tFields, tField, List.length_append, List.length_cons, List.length_nil]
    omega
  have hck := HGD.out.lck
  have hik := HGD.out.lik
  have etx : [] ++ [110, 101, 120, 116, 45, 107, 115, 105, 32] ++ Go.Lib.decDigits u ++ [10] ++ [97, 119, 97, 105, 116, 105, 110, 103, 45, 114, 101, 115, 121, 110, 99, 32] ++ [if D.rs then 49 else 48] ++ [10] = tFields D.x D.rs := by
    unfold tFields tField
    rw [EU.out, itoa_nat]
    have h5 : Go.Lib.itoa (if D.rs then 1 else 0) = [if D.rs then 49 else 48] := by
      cases D.rs
      · rw [show (if false = true then (1 : Int) else 0) = ((0 : Nat) : Int) from rfl, itoa_nat, Go.Lib.decDigits]; rfl
      · rw [show (if true = true then (1 : Int) else 0) = ((1 : Nat) : Int) from rfl, itoa_nat, Go.Lib.decDigits]; rfl
    rw [h5]
    simp [sKsi, sRes]
  go_upto_if 130 with (at_builtin; refine app_sl rfl _ _ rfl rfl (hr5.alloc _) [10] _ _ rfl (lies_new _ _ _) (by simp; omega) (by have := (HK.out _ bel5).2.2; simp; omega) ?_; intro v6 w6 hr6 hg6 hn6 ho6; have bel6 := (bel5.alloc (HK.out _ bel5).2.2 _).grown hg6 (by have := (HK.out _ bel5).2.2; simp; omega) (fun k e => (hr5.lt k e).1))
  rw [etx] at hr6
  clear etx hr5 bel5 hlu
  go_cut [2, 22] from 130 to 153 (fun b v W' => b = .bool D.hc ∧ Row W' B v (tFields D.x D.rs ++ (if D.hc then tCtx D.ck D.ik D.kk else [])) ∧ Below B W W')
  case first =>
    cases er : D.hc with
    | true =>
      obtain ⟨k0, k1⟩ := wf_i64 HGD.out.wkk
      have hS := fun w' (hb : Below B W w') => ctx_S (HK.out w' hb).1.b11 hck hik
      have HS := hide hS
      clear hS
      go_wp2_with (at_builtin; refine app_str (v := v6) rfl _ _ rfl rfl hr6 ⟨sCon.toArray⟩ rfl (by have := hLf; simp [sCon]; omega) (HK.out _ bel6).2.2 ?_; intro v7 w7 hr7 hg7 ho7; have bel7 := bel6.grown hg7 (HK.out _ bel6).2.2 (fun k e => (hr6.lt k e).1))
      replace hr7 : Row w7 B v7 (tFields D.x D.rs ++ sCon) := hr7
      have cl8 := hex_any (c := 16) hr7 (bytes_range (HS.out _ bel7).1) (fun b off e _ e' => by cases e; have := (hr7.lt _ e'.symm).1; omega) (by have := hLf; rw [List.length_append, sCon_len]; omega) (HK.out _ bel7).2.2
      rw [hck] at cl8
      refine cl8.mono ?_
      rintro e w8 ⟨v8, rfl, hr8, hg8, ho8⟩
      have bel8 := bel7.grown hg8 (HK.out _ bel7).2.2 (fun k e => (hr7.lt k e).1)
      clear cl8
      go_wp2_with (at_builtin; refine app_sl (v := v8) rfl _ _ rfl rfl (hr8.alloc _) [32] _ _ rfl (lies_new _ _ _) (by have := hLf; have := sCon_len; simp only [List.length_append, List.length_cons, List.length_nil, FmtText.hexOf_length]; omega) (by have := (HK.out _ bel8).2.2; simp; omega) ?_; intro v9 w9 hr9 hg9 hn9 ho9; have bel9 := (bel8.alloc (HK.out _ bel8).2.2 _).grown hg9 (by have := (HK.out _ bel8).2.2; simp; omega) (fun k e => (hr8.lt k e).1))
      have cl10 := hex_any (c := 16) hr9 (bytes_range (HS.out _ bel9).2.1) (fun b off e _ e' => by cases e; have := (hr9.lt _ e'.symm).1; omega) (by have := hLf; have := sCon_len; simp only [List.length_append, List.length_cons, List.length_nil, FmtText.hexOf_length]; omega) (HK.out _ bel9).2.2
      rw [hik] at cl10
      refine cl10.mono ?_
      rintro e w10 ⟨v10, rfl, hr10, hg10, ho10⟩
      have bel10 := bel9.grown hg10 (HK.out _ bel9).2.2 (fun k e => (hr9.lt k e).1)
      clear cl10
      go_wp2_with (at_builtin; refine app_sl (v := v10) rfl _ _ rfl rfl (hr10.alloc _) [32] _ _ rfl (lies_new _ _ _) (by have := hLf; have := sCon_len; simp only [List.length_append, List.length_cons, List.length_nil, FmtText.hexOf_length]; omega) (by have := (HK.out _ bel10).2.2; simp; omega) ?_; intro v11 w11 hr11 hg11 hn11 ho11; have bel11 := (bel10.alloc (HK.out _ bel10).2.2 _).grown hg11 (by have := (HK.out _ bel10).2.2; simp; omega) (fun k e => (hr10.lt k e).1); have cc := (HS.out _ bel11).2.2)
      refine (idec_any hr11 k0 k1 (by have := hLf; have := sCon_len; simp only [List.length_append, List.length_cons, List.length_nil, FmtText.hexOf_length]; omega) (HK.out _ bel11).2.2).mono ?_
      rintro e w12 ⟨v12, rfl, hr12, hg12, ho12⟩
      have bel12 := bel11.grown hg12 (HK.out _ bel11).2.2 (fun k e => (hr11.lt k e).1)
      clear cc
      have hit := FmtText.itoa_length_le HGD.out.wkk
      go_wp2_with (at_builtin; refine app_sl (v := v12) rfl _ _ rfl rfl (hr12.alloc _) [10] _ _ rfl (lies_new _ _ _) (by have := hLf; have := sCon_len; simp only [List.length_append, List.length_cons, List.length_nil, FmtText.hexOf_length]; omega) (by have := (HK.out _ bel12).2.2; simp; omega) ?_; intro v13 w13 hr13 hg13 hn13 ho13; have bel13 := (bel12.alloc (HK.out _ bel12).2.2 _).grown hg13 (by have := (HK.out _ bel12).2.2; simp; omega) (fun k e => (hr12.lt k e).1))
      go_meet
      case rel =>
        refine ⟨by rw [er], ?_, bel13⟩
        rw [er]
        simpa [tCtx, sCon] using hr13
    | false =>
      go_wp2
      go_meet
      case rel => exact ⟨by rw [er], by rw [er]; simpa using hr6, bel6⟩
  case rest =>
  clear hr6 bel6
  obtain ⟨rfl, hr7, bel7⟩ := hcut
  rename World => w7
  obtain ⟨L7, eL7⟩ : ∃ L7, L7 = tFields D.x D.rs ++ (if D.hc then tCtx D.ck D.ik D.kk else []) := ⟨_, rfl⟩
  rw [← eL7] at hr7
  have hL7 : L7.length ≤ 4000 := by
    have h1 := FmtText.itoa_length_le HGD.out.wkk
    rw [eL7, List.length_append]
    cases D.hc
    · simp; omega
    · simp only [if_true, tCtx, List.length_append, List.length_cons, List.length_nil, FmtText.hexOf_length, hck, hik]
      omega
  have EL7 := hide eL7
  clear eL7 hLf
  go_upto_if 154 with (fail)
  go_cut [4, 22] from 154 to 168 (fun b v W' => b = .bool D.ho ∧ Row W' B v (L7 ++ (if D.ho then sChal ++ tQuin D.z0.r D.z0.t D.z0.c D.z0.i D.z0.a ++ tKsi D.ok else [])) ∧ Below B W W')
  case first =>
    cases er : D.ho with
    | true =>
      obtain ⟨k0, k1⟩ := wf_i64 HGD.out.wok
      go_wp2_with (first | (at_builtin; refine app_str rfl _ _ rfl rfl hr7 ⟨sChal.toArray⟩ rfl (by have := hL7; simp [sChal]; omega) (HK.out _ bel7).2.2 ?_; intro v8 w8 hr8 hg8 ho8; have bel8 := bel7.grown hg8 (HK.out _ bel7).2.2 (fun k e => (hr7.lt k e).1); have rz := (HK.out _ bel8).1.b13.all) | (refine wpList_load_mid (by rfl) 27 _ (by rfl) c13 0 (by rfl) D.z0.cells _ rz Ybaf.underlying27 rfl (by rw [HGD.out.z0.size]; exact info27) ?_))
      clear rz
      replace hr8 : Row w8 B v8 (L7 ++ sChal) := hr8
      refine (quin_any hr8 (HK.out _ bel8).2.2 (by have := hL7; simp [sChal]; omega) HGD.out.z0 (HK.out _ bel8).1.good.x0 (fun x e h0 => by rw [EB.out]; exact HGD.out.x0.lt h0 x e)).mono ?_
      rintro e w9 ⟨v9, rfl, hr9, hg9, ho9⟩
      have bel9 := bel8.grown hg9 (HK.out _ bel8).2.2 (fun k e => (hr8.lt k e).1)
      go_wp2_with (at_builtin; refine app_sl (v := v9) rfl _ _ rfl rfl (hr9.alloc _) [32] _ _ rfl (lies_new _ _ _) (by have := hL7; have := HGD.out.z0.tlen; simp only [List.length_append, List.length_cons, List.length_nil, sChal]; omega) (by have := (HK.out _ bel9).2.2; simp; omega) ?_; intro v10 w10 hr10 hg10 hn10 ho10; have bel10 := (bel9.alloc (HK.out _ bel9).2.2 _).grown hg10 (by have := (HK.out _ bel9).2.2; simp; omega) (fun k e => (hr9.lt k e).1))
      refine (idec_any hr10 k0 k1 (by have := hL7; have := HGD.out.z0.tlen; simp only [List.length_append, List.length_cons, List.length_nil, sChal]; omega) (HK.out _ bel10).2.2).mono ?_
      rintro e w11 ⟨v11, rfl, hr11, hg11, ho11⟩
      have bel11 := bel10.grown hg11 (HK.out _ bel10).2.2 (fun k e => (hr10.lt k e).1)
      have hit := FmtText.itoa_length_le HGD.out.wok
      go_wp2_with (at_builtin; refine app_sl (v := v11) rfl _ _ rfl rfl (hr11.alloc _) [10] _ _ rfl (lies_new _ _ _) (by have := hL7; have := HGD.out.z0.tlen; simp only [List.length_append, List.length_cons, List.length_nil, sChal]; omega) (by have := (HK.out _ bel11).2.2; simp; omega) ?_; intro v12 w12 hr12 hg12 hn12 ho12; have bel12 := (bel11.alloc (HK.out _ bel11).2.2 _).grown hg12 (by have := (HK.out _ bel11).2.2; simp; omega) (fun k e => (hr11.lt k e).1))
      go_meet
      case rel =>
        refine ⟨by rw [er], ?_, bel12⟩
        rw [er]
        simpa [tKsi] using hr12
    | false =>
      go_wp2
      go_meet
      case rel => exact ⟨by rw [er], by rw [er]; simpa using hr7, bel7⟩
  case rest =>
  clear hr7 bel7
  obtain ⟨rfl, hr8, bel8⟩ := hcut
  rename World => w8
  obtain ⟨L8, eL8⟩ : ∃ L8, L8 = L7 ++ (if D.ho then sChal ++ tQuin D.z0.r D.z0.t D.z0.c D.z0.i D.z0.a ++ tKsi D.ok else []) := ⟨_, rfl⟩
  rw [← eL8] at hr8
  have hL8 : L8.length ≤ 4000000 := by
    have h1 := FmtText.itoa_length_le HGD.out.wok
    have h2 := HGD.out.z0.tlen
    rw [eL8, List.length_append]
    cases D.ho
    · simp; omega
    · simp only [if_true, tKsi, sChal, List.length_append, List.length_cons, List.length_nil]
      omega
  have ewant : tWant D = L8 ++ tVecs D.zs D.m := by rw [eL8, EL7.out]; rfl
  have EWT := hide ewant
  clear eL8 ewant hL7
  have m0 : (0 : Int) ≤ (D.m : Int) := by omega
  have hfew := HGD.out.few
  have m1 : (D.m : Int) ≤ 1048576 := by omega
  go_upto_block 4 with (fail)
  go_cut [22, 23] from 169 to 185 (fun v _ W' => Row W' B v (tWant D) ∧ Below B W W')
  case first =>
    go_wp2_with fail
    go_loopw [22, 23] (fun s y W' => ∃ j : Nat, y = .int .i64 (j : Int) ∧ j ≤ D.m ∧ Row W' B s (L8 ++ tVecs D.zs j) ∧ Below B W W') (fun _ y _ => D.m - (intOf y).toNat)
    case atStart => exact ⟨0, rfl, by omega, by simpa [tVecs] using hr8, bel8⟩
    case round =>
      clear hr8 bel8
      obtain ⟨j, rfl, hj, hrow, hbel⟩ := hrel
      have j0 : (0 : Int) ≤ (j : Int) := by omega
      have hjl := vecs_len HGD.out j hj
      by_cases hlt : j < D.m
      · have j1 : (j : Int) < (D.m : Int) := by omega
        obtain ⟨b, off, eva, _, hz, hxz⟩ := HGD.out.vec j hlt
        have hzl := hz.tlen
        rw [eva]
        go_wp2_with (first | (at_builtin; refine app_str rfl _ _ rfl rfl hrow ⟨sVec.toArray⟩ rfl (by simp [sVec]; omega) (HK.out _ hbel).2.2 ?_; intro v9 w9 hr9 hg9 ho9; have bel9 := hbel.grown hg9 (HK.out _ hbel).2.2 (fun k e => (hrow.lt k e).1); have rz := vec_range (HK.out _ bel9).1.good hlt eva) | (refine wpList_load_mid (by rfl) 27 _ (by rfl) b (off + j * 65) (by rfl) (D.zs j).cells _ rz Ybaf.underlying27 rfl (by rw [hz.size]; exact info27) ?_))
        clear rz
        replace hr9 : Row w9 B v9 (L8 ++ tVecs D.zs j ++ sVec) := hr9
        obtain ⟨_, _, _, _, _, hx9⟩ := (HK.out _ bel9).1.good.vec j hlt
        refine (quin_any hr9 (HK.out _ bel9).2.2 (by simp [sVec]; omega) hz hx9 (fun x e h0 => by rw [EB.out]; exact hxz.lt h0 x e)).mono ?_
        rintro e w10 ⟨v10, rfl, hr10, hg10, ho10⟩
        have bel10 := bel9.grown hg10 (HK.out _ bel9).2.2 (fun k e => (hr9.lt k e).1)
        go_wp2_with (at_builtin; refine app_sl (v := v10) rfl _ _ rfl rfl (hr10.alloc _) [10] _ _ rfl (lies_new _ _ _) (by simp only [List.length_append, List.length_cons, List.length_nil, sVec]; omega) (by have := (HK.out _ bel10).2.2; simp; omega) ?_; intro v11 w11 hr11 hg11 hn11 ho11; have bel11 := (bel10.alloc (HK.out _ bel10).2.2 _).grown hg11 (by have := (HK.out _ bel10).2.2; simp; omega) (fun k e => (hr10.lt k e).1))
        have e11 : L8 ++ tVecs D.zs j ++ sVec ++ tQuin (D.zs j).r (D.zs j).t (D.zs j).c (D.zs j).i (D.zs j).a ++ [10] = L8 ++ tVecs D.zs (j + 1) := by simp [tVecs, tVec]
        rw [e11] at hr11
        exact ⟨⟨j + 1, by go_num, by omega, hr11, bel11⟩, by simp [intOf]; omega⟩
      · have j1 : ¬ (j : Int) < (D.m : Int) := by omega
        obtain rfl : j = D.m := by omega
        go_wp2
        go_meet
        case rel => exact ⟨by rw [EWT.out]; exact hrow, hbel⟩
  case rest =>
  obtain ⟨hr9, bel9⟩ := hcut
  rename_i hK
  exact hK _ _ (part_53 (HK.out _ bel9).1 (HK.out _ bel9).2.1 hr9)
end Go.Proofs.YbulkfhtoFmt.A
