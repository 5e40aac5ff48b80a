/-
  The float of Plan.at: exact product, quotient cut to a whole number.
-/
import Derived.Laws.FloatArith
namespace Go.Proofs.Ybulkfhta.B
open Ieee

theorem log2_eq {n k : Nat} (h1 : 2 ^ k ≤ n) (h2 : n < 2 ^ (k + 1)) : n.log2 = k := by
  have hn : n ≠ 0 := by have := Nat.two_pow_pos k; omega
  have a := (Nat.le_log2 hn).2 h1
  have b := (Nat.log2_lt hn).2 h2
  omega

theorem log2_bounds {n : Nat} (h : n ≠ 0) : 2 ^ n.log2 ≤ n ∧ n < 2 ^ (n.log2 + 1) := ⟨(Nat.le_log2 h).1 (Nat.le_refl _), Nat.lt_log2_self⟩

/-- What a word reads back as, of a significand that is full. -/
theorem read_word (neg : Bool) {e kept : Nat} (he : e ≤ 2000) (h1 : 2 ^ 52 ≤ kept) (h2 : kept < 2 ^ 53) : double.read (double.word neg (e * 2 ^ 52 + kept)) = .number neg kept (-1074 + (e : Int)) := by
  have hs : double.signWeight = 2 ^ 63 := rfl
  have hb : double.binade = 2 ^ 52 := rfl
  have hi : double.infRung = 2047 * 2 ^ 52 := rfl
  have hl : double.leastPlace = -1074 := rfl
  have hr : e * 2 ^ 52 + kept < 2 ^ 63 := by omega
  have hw : double.word neg (e * 2 ^ 52 + kept) / double.signWeight % 2 = (if neg then 1 else 0) ∧ double.word neg (e * 2 ^ 52 + kept) % double.signWeight = e * 2 ^ 52 + kept := by
    unfold Format.word
    rw [hs]
    cases neg
    · simp; omega
    · simp; omega
  unfold Format.read
  simp only [hw.1, hw.2, hb, hi, hl]
  rw [if_neg (by omega), if_pos (by omega)]
  have h3 : (e * 2 ^ 52 + kept) % 2 ^ 52 = kept - 2 ^ 52 := by omega
  have h4 : (e * 2 ^ 52 + kept) / 2 ^ 52 = e + 1 := by omega
  rw [h3, h4]
  cases neg
  · simp; omega
  · simp; omega

theorem one_shl (k : Nat) : 1 <<< k = 2 ^ k := by rw [Nat.shiftLeft_eq, Nat.one_mul]

theorem cut_exact (neg : Bool) {K D : Nat} (hK : K ≠ 0) : Toward.even.cut neg (K * 2 ^ D) D = K := by
  have hp := Nat.two_pow_pos D
  have hn : K * 2 ^ D ≠ 0 := Nat.mul_ne_zero hK (by omega)
  have hl : D ≤ (K * 2 ^ D).log2 := (Nat.le_log2 hn).2 (Nat.le_mul_of_pos_left _ (by omega))
  unfold Toward.cut
  simp only [Nat.min_eq_left (show D ≤ (K * 2 ^ D).log2 + 2 by omega), one_shl, Nat.mul_div_cancel _ hp, Nat.mul_mod_left]
  simp

theorem log2_mul_pow {M : Nat} (hM : M ≠ 0) (j : Nat) : (M * 2 ^ j).log2 = M.log2 + j := by
  obtain ⟨h1, h2⟩ := log2_bounds hM
  apply log2_eq
  · rw [Nat.pow_add]; exact Nat.mul_le_mul_right _ h1
  · rw [show M.log2 + j + 1 = (M.log2 + 1) + j by omega, Nat.pow_add]
    exact Nat.mul_lt_mul_of_pos_right h2 (Nat.two_pow_pos j)

/-- A number of at most 53 digits is written as it is. -/
theorem near_exact (neg : Bool) {M j : Nat} {place : Int} (hM : M ≠ 0) (h53 : M < 2 ^ 53) (hp0 : -900 ≤ place + j) (hp1 : place + j ≤ 800) :
    double.read (double.nearest neg (M * 2 ^ j) place) = .number neg (M * 2 ^ (52 - M.log2)) (place + j - ((52 - M.log2 : Nat) : Int)) := by
  have hL : M.log2 ≤ 52 := by have := (Nat.log2_lt hM).2 h53; omega
  obtain ⟨b1, b2⟩ := log2_bounds hM
  obtain ⟨L, eL⟩ : ∃ L, L = M.log2 := ⟨_, rfl⟩
  have hmag : M * 2 ^ j ≠ 0 := Nat.mul_ne_zero hM (by have := Nat.two_pow_pos j; omega)
  have hlast : max (place + ((M * 2 ^ j).log2 : Int) - (52 : Nat)) (-1074) = place + L + j - 52 := by
    rw [log2_mul_pow hM, ← eL]; omega
  have hkept : Toward.even.cut neg ((M * 2 ^ j) <<< (place - (place + L + j - 52)).toNat) ((place + L + j - 52) - place).toNat = M * 2 ^ (52 - L) := by
    by_cases hc : L + j ≤ 52
    · rw [show (place - (place + L + j - 52)).toNat = 52 - L - j by omega, show ((place + L + j - 52) - place).toNat = 0 by omega, Nat.shiftLeft_eq, Nat.mul_assoc, ← Nat.pow_add, show j + (52 - L - j) = 52 - L by omega]
      have := cut_exact neg (K := M * 2 ^ (52 - L)) (D := 0) (Nat.mul_ne_zero hM (by have := Nat.two_pow_pos (52 - L); omega))
      rw [Nat.pow_zero, Nat.mul_one] at this
      exact this
    · rw [show (place - (place + L + j - 52)).toNat = 0 by omega, show ((place + L + j - 52) - place).toNat = L + j - 52 by omega, Nat.shiftLeft_zero]
      have := cut_exact neg (K := M * 2 ^ (52 - L)) (D := L + j - 52) (Nat.mul_ne_zero hM (by have := Nat.two_pow_pos (52 - L); omega))
      rw [Nat.mul_assoc, ← Nat.pow_add, show 52 - L + (L + j - 52) = j by omega] at this
      exact this
  have k1 : 2 ^ 52 ≤ M * 2 ^ (52 - L) := by
    have := Nat.mul_le_mul_right (2 ^ (52 - L)) b1
    rw [← eL, ← Nat.pow_add, show L + (52 - L) = 52 by omega] at this
    exact this
  have k2 : M * 2 ^ (52 - L) < 2 ^ 53 := by
    have := Nat.mul_lt_mul_of_pos_right b2 (Nat.two_pow_pos (52 - L))
    rw [← eL, ← Nat.pow_add, show L + 1 + (52 - L) = 53 by omega] at this
    exact this
  unfold Format.nearest
  rw [if_neg hmag]
  simp only [show double.fractionBits = 52 from rfl, show double.leastPlace = -1074 from rfl, hlast, hkept, show double.binade = 2 ^ 52 from rfl, show double.infRung = 2047 * 2 ^ 52 from rfl]
  obtain ⟨e, he⟩ : ∃ e : Nat, (e : Int) = place + L + j - 52 - -1074 := ⟨(place + L + j - 52 - -1074).toNat, by omega⟩
  have he2 : e ≤ 2000 := by omega
  rw [show (place + L + j - 52 - -1074).toNat = e by omega, Nat.min_eq_left (by omega), read_word neg he2 k1 k2, ← eL]
  congr 1
  omega

/-- A number of 55 or 56 digits is rounded. -/
theorem near_round (neg : Bool) {mag dr : Nat} {place : Int} (hdr : dr = 2 ∨ dr = 3) (h1 : 2 ^ (52 + dr) ≤ mag) (h2 : mag < 2 ^ (53 + dr)) (hp0 : -900 ≤ place) (hp1 : place ≤ 800) :
    ∃ kept, mag / 2 ^ dr ≤ kept ∧ kept ≤ mag / 2 ^ dr + 1 ∧
      ((kept < 2 ^ 53 ∧ double.read (double.nearest neg mag place) = .number neg kept (place + dr)) ∨ (kept = 2 ^ 53 ∧ double.read (double.nearest neg mag place) = .number neg (2 ^ 52) (place + dr + 1))) := by
  have hmag : mag ≠ 0 := by have := Nat.two_pow_pos (52 + dr); omega
  have hlog : mag.log2 = 52 + dr := log2_eq h1 (by rw [show 52 + dr + 1 = 53 + dr by omega]; exact h2)
  have hlast : max (place + (mag.log2 : Int) - (52 : Nat)) (-1074) = place + dr := by rw [hlog]; omega
  obtain ⟨kept, ek⟩ : ∃ kept, kept = Toward.even.cut neg mag dr := ⟨_, rfl⟩
  have hcut : mag / 2 ^ dr ≤ kept ∧ kept ≤ mag / 2 ^ dr + 1 := by
    rw [ek]
    unfold Toward.cut
    simp only [Nat.min_eq_left (show dr ≤ mag.log2 + 2 by omega), one_shl]
    refine ⟨by omega, ?_⟩
    have : ∀ b : Bool, b.toNat ≤ 1 := fun b => by cases b <;> simp
    exact Nat.add_le_add_left (this _) _
  have low1 : 2 ^ 52 ≤ mag / 2 ^ dr := by
    rw [Nat.le_div_iff_mul_le (Nat.two_pow_pos dr), ← Nat.pow_add]; exact h1
  have low2 : mag / 2 ^ dr < 2 ^ 53 := by
    rw [Nat.div_lt_iff_lt_mul (Nat.two_pow_pos dr), ← Nat.pow_add]; exact h2
  refine ⟨kept, hcut.1, hcut.2, ?_⟩
  have hnear : double.nearest neg mag place = double.word neg ((place + dr + 1074).toNat * 2 ^ 52 + kept) := by
    unfold Format.nearest
    rw [if_neg hmag]
    simp only [show double.fractionBits = 52 from rfl, show double.leastPlace = -1074 from rfl, hlast, show double.binade = 2 ^ 52 from rfl, show double.infRung = 2047 * 2 ^ 52 from rfl]
    rw [show (place - (place + dr)).toNat = 0 by omega, show ((place + dr) - place).toNat = dr by omega, Nat.shiftLeft_zero, ← ek, show (place + (dr : Int) - -1074).toNat = (place + dr + 1074).toNat by omega, Nat.min_eq_left (by omega)]
  obtain ⟨e, he⟩ : ∃ e : Nat, (e : Int) = place + dr + 1074 := ⟨(place + dr + 1074).toNat, by omega⟩
  have he' : (place + (dr : Int) + 1074).toNat = e := by omega
  rw [hnear, he']
  by_cases hk : kept < 2 ^ 53
  · refine .inl ⟨hk, ?_⟩
    rw [read_word neg (by omega) (by omega) hk]
    congr 1; omega
  · have hk' : kept = 2 ^ 53 := by omega
    refine .inr ⟨hk', ?_⟩
    rw [hk', show e * 2 ^ 52 + 2 ^ 53 = (e + 1) * 2 ^ 52 + 2 ^ 52 by omega, read_word neg (by omega) (by omega) (by omega)]
    congr 1; omega

theorem cut_zero (neg : Bool) (n u : Nat) : Toward.zero.cut neg n u = n / 2 ^ u := by
  unfold Toward.cut
  simp only [one_shl]
  simp
  by_cases h : u ≤ n.log2 + 2
  · rw [Nat.min_eq_left h]
  · rw [Nat.min_eq_right (by omega)]
    by_cases h0 : n = 0
    · subst h0; simp
    · have hl := (log2_bounds h0).2
      rw [Nat.div_eq_of_lt (Nat.lt_of_lt_of_le hl (Nat.pow_le_pow_right (by omega) (by omega))), Nat.div_eq_of_lt (Nat.lt_of_lt_of_le hl (Nat.pow_le_pow_right (by omega) (by omega)))]

theorem toInt_cut (neg : Bool) (n u : Nat) : (Datum.number neg n (-(u : Int))).toInt .zero = some (signed neg (n / 2 ^ u) 0) := by
  unfold Datum.toInt Datum.integral
  simp only [show ((-(u : Int)).toNat) = 0 by omega, show ((- -(u : Int)).toNat) = u by omega, Nat.shiftLeft_zero, cut_zero]

theorem ofInt_read {n : Int} (h0 : n ≠ 0) (h1 : n.natAbs < 2 ^ 53) : double.read (floatOfInt .f64 n) = .number (decide (n < 0)) (n.natAbs * 2 ^ (52 - n.natAbs.log2)) (-((52 - n.natAbs.log2 : Nat) : Int)) := by
  have := near_exact (decide (n < 0)) (M := n.natAbs) (j := 0) (place := 0) (by omega) h1 (by omega) (by omega)
  rw [Nat.pow_zero, Nat.mul_one] at this
  show double.read (double.nearest (decide (n < 0)) n.natAbs 0) = _
  rw [this]
  congr 1
  omega

/-- The quotient, plain. -/
theorem quot_bounds {P s t : Nat} (hs : 0 < s) (hs2 : s ≤ 39) (ht : 17 ≤ t) : P / s * 2 ^ t ≤ P * 2 ^ t / s ∧ P * 2 ^ t / s + 5 ≤ (P / s + 1) * 2 ^ t := by
  have hT : 2 ^ 17 ≤ 2 ^ t := Nat.pow_le_pow_right (by omega) ht
  generalize 2 ^ t = T at hT ⊢
  have h1 : P / s * s ≤ P := Nat.div_mul_le_self P s
  have h2 : P < (P / s + 1) * s := by
    have e := Nat.div_add_mod P s
    have l := Nat.mod_lt P hs
    rw [Nat.add_mul, Nat.mul_comm (P / s) s]
    omega
  constructor
  · rw [Nat.le_div_iff_mul_le hs, Nat.mul_right_comm]
    exact Nat.mul_le_mul_right T h1
  · have h3 : P * T / s * s ≤ P * T := Nat.div_mul_le_self _ _
    have h4 : (P + 1) * T ≤ (P / s + 1) * s * T := Nat.mul_le_mul_right T h2
    rw [Nat.add_mul, Nat.one_mul, Nat.mul_right_comm] at h4
    rcases Nat.lt_or_ge (P * T / s + 4) ((P / s + 1) * T) with h | h
    · omega
    · have h5 : (P / s + 1) * T * s ≤ (P * T / s + 4) * s := Nat.mul_le_mul_right s h
      have h6 : (P * T / s + 4) * s = P * T / s * s + 4 * s := Nat.add_mul _ _ _
      omega

/-- What is kept of the rounded quotient, cut, is the whole quotient. -/
theorem kept_div {P s t dr mag kept : Nat} (hs : 0 < s) (hs2 : s ≤ 39) (ht : 17 ≤ t) (hdr : dr = 2 ∨ dr = 3) (m1 : 2 * (P * 2 ^ t / s) ≤ mag) (m2 : mag ≤ 2 * (P * 2 ^ t / s) + 1) (k1 : mag / 2 ^ dr ≤ kept) (k2 : kept ≤ mag / 2 ^ dr + 1) : kept / 2 ^ (t + 1 - dr) = P / s := by
  obtain ⟨q1, q2⟩ := quot_bounds (P := P) hs hs2 ht
  have hu : 2 ^ (t + 1 - dr) * 2 ^ dr = 2 * 2 ^ t := by rw [← Nat.pow_add, show t + 1 - dr + dr = t + 1 by omega, Nat.pow_succ, Nat.mul_comm]
  have hd8 : 2 ^ dr ≤ 8 := by rcases hdr with rfl | rfl <;> decide
  have hdp := Nat.two_pow_pos dr
  have hup := Nat.two_pow_pos (t + 1 - dr)
  generalize 2 ^ (t + 1 - dr) = U at hu hup ⊢
  generalize 2 ^ t = T at q1 q2 hu m1 m2
  generalize 2 ^ dr = R at hu hd8 hdp k1 k2
  generalize P / s = q at q1 q2 ⊢
  generalize P * T / s = Q at q1 q2 m1 m2
  have e1 : q * U * R = 2 * (q * T) := by rw [Nat.mul_assoc, hu, ← Nat.mul_assoc, Nat.mul_comm q 2, Nat.mul_assoc]
  have e2 : (q + 1) * U * R = 2 * ((q + 1) * T) := by rw [Nat.mul_assoc, hu, ← Nat.mul_assoc, Nat.mul_comm (q + 1) 2, Nat.mul_assoc]
  have l1 : q * U ≤ mag / R := by rw [Nat.le_div_iff_mul_le hdp, e1]; omega
  have l2 : mag / R + 2 ≤ (q + 1) * U := by
    rcases Nat.lt_or_ge (mag / R + 1) ((q + 1) * U) with h | h
    · omega
    · have h1 : (q + 1) * U * R ≤ (mag / R + 1) * R := Nat.mul_le_mul_right R h
      have h2 : (mag / R + 1) * R = mag / R * R + R := by rw [Nat.add_mul, Nat.one_mul]
      have h3 : mag / R * R ≤ mag := Nat.div_mul_le_self _ _
      omega
  apply Nat.div_eq_of_lt_le
  · omega
  · show kept < (q + 1) * U
    omega

/-- The quotient of two whole numbers, cut. -/
theorem quo_float {neg : Bool} {P s x y : Nat} (hP : P ≠ 0) (hP2 : P < 2 ^ 37) (hs : 0 < s) (hs2 : s ≤ 39) (hx : double.read x = .number neg (P * 2 ^ (52 - P.log2)) (-((52 - P.log2 : Nat) : Int))) (hy : double.read y = .number false (s * 2 ^ (52 - s.log2)) (-((52 - s.log2 : Nat) : Int))) :
    ∃ r, double.div x y = some r ∧ (double.read r).toInt .zero = some (signed neg (P / s) 0) := by
  have hs0 : s ≠ 0 := by omega
  have lP : P.log2 ≤ 36 := by have := (Nat.log2_lt hP).2 hP2; omega
  have ls : s.log2 ≤ 5 := by have := (Nat.log2_lt hs0).2 (show s < 2 ^ 6 by omega); omega
  obtain ⟨c, ec⟩ : ∃ c, c = 52 - P.log2 := ⟨_, rfl⟩
  obtain ⟨e, ee⟩ : ∃ e, e = 52 - s.log2 := ⟨_, rfl⟩
  rw [← ec] at hx
  rw [← ee] at hy
  have lm : (P * 2 ^ c).log2 = 52 := by rw [log2_mul_pow hP]; omega
  have ln : (s * 2 ^ e).log2 = 52 := by rw [log2_mul_pow hs0]; omega
  have hm0 : P * 2 ^ c ≠ 0 := Nat.mul_ne_zero hP (by have := Nat.two_pow_pos c; omega)
  have hn0 : s * 2 ^ e ≠ 0 := Nat.mul_ne_zero hs0 (by have := Nat.two_pow_pos e; omega)
  obtain ⟨mb1, mb2⟩ := log2_bounds hm0
  obtain ⟨nb1, nb2⟩ := log2_bounds hn0
  rw [lm] at mb1 mb2
  rw [ln] at nb1 nb2
  obtain ⟨t, et⟩ : ∃ t, t = c + 54 - e := ⟨_, rfl⟩
  have ht : 17 ≤ t := by omega
  have hdiv : (P * 2 ^ c) <<< 54 / (s * 2 ^ e) = P * 2 ^ t / s := by
    rw [Nat.shiftLeft_eq, Nat.mul_assoc, ← Nat.pow_add, show c + 54 = t + e by omega, Nat.pow_add, ← Nat.mul_assoc]
    exact Nat.mul_div_mul_right _ _ (Nat.two_pow_pos e)
  obtain ⟨Q, eQ⟩ : ∃ Q, Q = P * 2 ^ t / s := ⟨_, rfl⟩
  have hQ1 : 2 ^ 53 ≤ Q := by
    rw [eQ, ← hdiv, Nat.le_div_iff_mul_le (by omega), Nat.shiftLeft_eq]
    generalize s * 2 ^ e = n at nb1 nb2
    generalize P * 2 ^ c = m at mb1 mb2
    omega
  have hQ2 : Q < 2 ^ 55 := by
    rw [eQ, ← hdiv, Nat.div_lt_iff_lt_mul (by omega), Nat.shiftLeft_eq]
    generalize s * 2 ^ e = n at nb1 nb2
    generalize P * 2 ^ c = m at mb1 mb2
    omega
  obtain ⟨st, est⟩ : ∃ st, st = ((P * 2 ^ c) <<< 54 % (s * 2 ^ e) != 0).toNat := ⟨_, rfl⟩
  have hst : st ≤ 1 := by rw [est]; cases ((P * 2 ^ c) <<< 54 % (s * 2 ^ e) != 0) <;> simp
  obtain ⟨mag, emag⟩ : ∃ mag, mag = 2 * Q + st := ⟨_, rfl⟩
  have hdv : double.div x y = some (double.nearest neg mag (-((t + 1 : Nat) : Int))) := by
    unfold Format.div
    rw [hx, hy]
    unfold Datum.quotient
    rw [show double.fractionBits + 2 = 54 from rfl]
    simp only [if_neg hn0, lm, ln, show 54 + 52 - 52 = 54 from rfl, Bool.xor_false, Option.map_some]
    rw [hdiv, ← eQ, ← est, ← emag, show -(c : Int) - -(e : Int) - ((54 : Nat) : Int) - 1 = -((t + 1 : Nat) : Int) by omega]
    rfl
  refine ⟨_, hdv, ?_⟩
  obtain ⟨dr, hdr, b1, b2⟩ : ∃ dr, (dr = 2 ∨ dr = 3) ∧ 2 ^ (52 + dr) ≤ mag ∧ mag < 2 ^ (53 + dr) := by
    by_cases h : mag < 2 ^ 55
    · exact ⟨2, .inl rfl, by omega, h⟩
    · exact ⟨3, .inr rfl, by omega, by omega⟩
  have htc : t ≤ 106 := by omega
  obtain ⟨kept, k1, k2, hr⟩ := near_round neg (place := -((t + 1 : Nat) : Int)) hdr b1 b2 (by omega) (by omega)
  have hk := kept_div (P := P) hs hs2 ht hdr (mag := mag) (kept := kept) (by rw [← eQ]; omega) (by rw [← eQ]; omega) k1 k2
  rcases hr with ⟨_, hr⟩ | ⟨hkk, hr⟩
  · rw [hr, show -((t + 1 : Nat) : Int) + (dr : Int) = -((t + 1 - dr : Nat) : Int) by omega, toInt_cut, hk]
  · rw [hr, show -((t + 1 : Nat) : Int) + (dr : Int) + 1 = -((t - dr : Nat) : Int) by omega, toInt_cut, ← hk, hkk, show t + 1 - dr = (t - dr) + 1 by omega]
    generalize t - dr = v
    have e : 2 ^ 53 / 2 ^ (v + 1) = 2 ^ 52 / 2 ^ v := by
      rw [Nat.pow_succ 2 v, Nat.pow_succ 2 52]
      exact Nat.mul_div_mul_right _ _ (by omega)
    rw [e]

theorem mul_float {neg : Bool} {a b x y : Nat} (ha : a ≠ 0) (hb : b ≠ 0) (h : a * b < 2 ^ 53) (hx : double.read x = .number neg (a * 2 ^ (52 - a.log2)) (-((52 - a.log2 : Nat) : Int))) (hy : double.read y = .number false (b * 2 ^ (52 - b.log2)) (-((52 - b.log2 : Nat) : Int))) :
    ∃ r, double.mul x y = some r ∧ double.read r = .number neg (a * b * 2 ^ (52 - (a * b).log2)) (-((52 - (a * b).log2 : Nat) : Int)) := by
  have := near_exact neg (M := a * b) (j := (52 - a.log2) + (52 - b.log2)) (place := -((52 - a.log2 : Nat) : Int) + -((52 - b.log2 : Nat) : Int)) (Nat.mul_ne_zero ha hb) h (by omega) (by omega)
  refine ⟨double.nearest neg (a * b * 2 ^ ((52 - a.log2) + (52 - b.log2))) (-((52 - a.log2 : Nat) : Int) + -((52 - b.log2 : Nat) : Int)), ?_, ?_⟩
  · unfold Format.mul
    rw [hx, hy]
    unfold Datum.product
    simp only [Bool.xor_false, Option.map_some]
    rw [show a * 2 ^ (52 - a.log2) * (b * 2 ^ (52 - b.log2)) = a * b * 2 ^ ((52 - a.log2) + (52 - b.log2)) by rw [Nat.pow_add, Nat.mul_assoc, Nat.mul_assoc, Nat.mul_left_comm (2 ^ (52 - a.log2)) b]]
    rfl
  · rw [this]
    congr 1
    omega

theorem at_float {d : Int} {k s : Nat} (h0 : -1073741824 < d) (h1 : d < 1073741824) (hk : 0 < k) (hk2 : k ≤ 50) (hs : 0 < s) (hs2 : s ≤ 39) :
    ∃ r1 r2, floatBits .mul .f64 (floatOfInt .f64 d) (floatOfInt .f64 (k : Int)) = some r1 ∧ floatBits .quo .f64 r1 (floatOfInt .f64 (s : Int)) = some r2 ∧ floatToIntVal .f64 r2 .i64 = some ((d * k).tdiv s) := by
  have hky := ofInt_read (n := (k : Int)) (by omega) (by omega)
  have hsy := ofInt_read (n := (s : Int)) (by omega) (by omega)
  rw [show decide ((k : Int) < 0) = false by simp, Int.natAbs_natCast] at hky
  rw [show decide ((s : Int) < 0) = false by simp, Int.natAbs_natCast] at hsy
  by_cases hd : d = 0
  · subst hd
    have hz : double.read 0 = .number false 0 (-1074) := by decide
    refine ⟨0, 0, ?_, ?_, ?_⟩
    · show double.mul (double.nearest (decide ((0 : Int) < 0)) 0 0) (floatOfInt .f64 (k : Int)) = some 0
      unfold Format.mul
      rw [show double.nearest (decide ((0 : Int) < 0)) 0 0 = 0 from rfl, hz, hky]
      unfold Datum.product
      simp only [Nat.zero_mul, Bool.xor_false, Option.map_some]
      rfl
    · show double.div 0 (floatOfInt .f64 (s : Int)) = some 0
      unfold Format.div
      rw [hz, hsy]
      unfold Datum.quotient
      have hn0 : s * 2 ^ (52 - s.log2) ≠ 0 := Nat.mul_ne_zero (by omega) (by have := Nat.two_pow_pos (52 - s.log2); omega)
      simp only [if_neg hn0, Nat.zero_shiftLeft, Nat.zero_div, Nat.zero_mod, Bool.xor_false, Option.map_some]
      rfl
    · unfold floatToIntVal
      rw [show (FloatKind.f64.decode 0) = .number false 0 (-1074) from hz]
      simp [Datum.toInt, Datum.integral, Toward.cut, signed, IntKind.min, IntKind.max, IntKind.signed, IntKind.bits]
  · have hdx := ofInt_read (n := d) hd (by omega)
    obtain ⟨a, ea⟩ : ∃ a, a = d.natAbs := ⟨_, rfl⟩
    rw [← ea] at hdx
    have hab : a * k < 2 ^ 36 := by
      have : a * k ≤ 1073741823 * 50 := Nat.mul_le_mul (by omega) hk2
      omega
    obtain ⟨r1, e1, hr1⟩ := mul_float (a := a) (b := k) (by omega) (by omega) (by omega) hdx hky
    obtain ⟨r2, e2, hr2⟩ := quo_float (Nat.mul_ne_zero (show a ≠ 0 by omega) (show k ≠ 0 by omega)) (by omega) hs hs2 hr1 hsy
    refine ⟨r1, r2, e1, e2, ?_⟩
    have hle : a * k / s ≤ a * k := Nat.div_le_self _ _
    have hsg : signed (decide (d < 0)) (a * k / s) 0 = (d * k).tdiv s := by
      have hq : (((a * k : Nat) : Int)).tdiv (s : Int) = ((a * k / s : Nat) : Int) := rfl
      unfold signed
      by_cases hn : d < 0
      · rw [show decide (d < 0) = true by simpa using hn]
        have e : d * (k : Int) = -((a * k : Nat) : Int) := by
          have : d = -(a : Int) := by omega
          rw [this, Int.neg_mul, Int.natCast_mul]
        rw [e, Int.neg_tdiv, hq]
        simp
      · rw [show decide (d < 0) = false by simpa using hn]
        have e : d * (k : Int) = ((a * k : Nat) : Int) := by
          have : d = (a : Int) := by omega
          rw [this, Int.natCast_mul]
        rw [e, hq]
        simp
    unfold floatToIntVal
    rw [show (FloatKind.f64.decode r2).toInt .zero = some ((d * k).tdiv s) by rw [← hsg]; exact hr2]
    have hb : -(2 : Int) ^ 36 ≤ (d * k).tdiv s ∧ (d * k).tdiv s ≤ 2 ^ 36 := by
      rw [← hsg]
      unfold signed
      generalize a * k / s = q at hle ⊢
      split <;> simp <;> omega
    simp [IntKind.min, IntKind.max, IntKind.signed, IntKind.bits]
    omega
end Go.Proofs.Ybulkfhta.B
