/- Plain facts on double floats: what is a positive number, what products and quotients of such are, how they compare. No program in sight. -/
import Derived.Laws.FloatArith
import Derived.Laws.Cover2
set_option linter.unusedVariables false
set_option linter.unusedSimpArgs false
namespace Go.Proofs.Ytkbppaddghfgpaa
open Ieee

/-- Not a NaN. -/
def NN (x : Nat) : Prop := (double.read x).isNaN = false
/-- A positive finite number. -/
def FP (x : Nat) : Prop := ∃ (m : Nat) (p : Int), 0 < m ∧ double.read x = .number false m p

theorem FP.nn {x : Nat} (h : FP x) : NN x := by obtain ⟨m, p, _, h⟩ := h; unfold NN; rw [h]; rfl

theorem binade_eq : double.binade = 4503599627370496 := by decide
theorem inf_eq : double.infRung = 9218868437227405312 := by decide
theorem sw_eq : double.signWeight = 9223372036854775808 := by decide
theorem lp_eq : double.leastPlace = -1074 := by decide

theorem read_lo {w : Nat} (h : w ≤ 9218868437227405312) : NN w := by
  unfold NN Format.read
  simp only [binade_eq, inf_eq, sw_eq, lp_eq]
  have e : w % 9223372036854775808 = w := Nat.mod_eq_of_lt (by omega)
  rw [e]
  split
  · rfl
  · split
    · rfl
    · rw [if_pos (by omega)]; rfl
theorem read_neg {w : Nat} (h : w ≤ 9218868437227405312) : NN (9223372036854775808 + w) := by
  unfold NN Format.read
  simp only [binade_eq, inf_eq, sw_eq, lp_eq]
  have e : (9223372036854775808 + w) % 9223372036854775808 = w := by omega
  rw [e]
  split
  · rfl
  · split
    · rfl
    · rw [if_pos (by omega)]; rfl
theorem read_mid {w : Nat} (h0 : 4503599627370496 ≤ w) (h : w < 9218868437227405312) : FP w := by
  refine ⟨4503599627370496 + w % 4503599627370496, -1074 + ((w / 4503599627370496 - 1 : Nat) : Int), by omega, ?_⟩
  unfold Format.read
  simp only [binade_eq, inf_eq, sw_eq, lp_eq]
  have e : w % 9223372036854775808 = w := Nat.mod_eq_of_lt (by omega)
  have e2 : (w / 9223372036854775808 % 2 == 1) = false := by rw [Nat.div_eq_of_lt (by omega)]; rfl
  rw [e, e2, if_neg (by omega), if_pos (by omega)]

theorem nearest_nn (neg : Bool) (mag : Nat) (place : Int) : NN (double.nearest neg mag place) := by
  unfold Format.nearest
  have key : ∀ r, r ≤ 9218868437227405312 → NN (double.word neg r) := by
    intro r hr
    cases neg
    · exact read_lo hr
    · exact read_neg hr
  split
  · exact key 0 (by omega)
  · refine key _ ?_
    rw [inf_eq]
    exact Nat.min_le_right _ _
theorem write_nn {d : Datum} (h : d.isNaN = false) : NN (double.write d) := by
  cases d with
  | number n m p => exact nearest_nn n m p
  | infinity s => cases s <;> (unfold NN; decide)
  | nan s t => cases h

/-- Where a number's leading digit lies well inside the format, its word is a positive number. -/
theorem nearest_fp {mag : Nat} {place : Int} (h0 : 0 < mag) (h1 : -1022 ≤ place + mag.log2) (h2 : place + mag.log2 ≤ 1022) : FP (double.nearest false mag place) := by
  have hm : mag ≠ 0 := by omega
  have hlo : 2 ^ mag.log2 ≤ mag := Nat.log2_self_le hm
  have hhi : mag < 2 ^ (mag.log2 + 1) := Nat.lt_log2_self
  have f52 : (double.fractionBits : Int) = 52 := rfl
  unfold Format.nearest
  rw [if_neg hm]
  simp only [binade_eq, inf_eq, lp_eq, f52]
  have hlast : max (place + (mag.log2 : Int) - 52) (-1074) = place + (mag.log2 : Int) - 52 := by omega
  rw [hlast]
  generalize hL : mag.log2 = L at *
  have hcut : 4503599627370496 ≤ Toward.even.cut false (mag <<< (place - (place + (L : Int) - 52)).toNat) (place + (L : Int) - 52 - place).toNat ∧
      Toward.even.cut false (mag <<< (place - (place + (L : Int) - 52)).toNat) (place + (L : Int) - 52 - place).toNat ≤ 9007199254740992 := by
    by_cases hc : L ≤ 52
    · have e1 : (place - (place + (L : Int) - 52)).toNat = 52 - L := by omega
      have e2 : (place + (L : Int) - 52 - place).toNat = 0 := by omega
      rw [e1, e2]
      have e3 : Toward.even.cut false (mag <<< (52 - L)) 0 = mag * 2 ^ (52 - L) := by
        unfold Toward.cut
        simp [Nat.shiftLeft_eq, Nat.mod_one]
      rw [e3]
      have p1 : 2 ^ L * 2 ^ (52 - L) = 4503599627370496 := by rw [← Nat.pow_add, show L + (52 - L) = 52 by omega]
      have p2 : 2 ^ (L + 1) * 2 ^ (52 - L) = 9007199254740992 := by rw [← Nat.pow_add, show L + 1 + (52 - L) = 53 by omega]
      exact ⟨p1 ▸ Nat.mul_le_mul_right _ hlo, p2 ▸ Nat.mul_le_mul_right _ (Nat.le_of_lt hhi)⟩
    · have e1 : (place - (place + (L : Int) - 52)).toNat = 0 := by omega
      have e2 : (place + (L : Int) - 52 - place).toNat = L - 52 := by omega
      rw [e1, e2, Nat.shiftLeft_zero]
      unfold Toward.cut
      have e3 : min (L - 52) (mag.log2 + 2) = L - 52 := by rw [hL]; omega
      simp only [e3, Nat.shiftLeft_eq, Nat.one_mul]
      have q1 : 4503599627370496 ≤ mag / 2 ^ (L - 52) := by
        rw [Nat.le_div_iff_mul_le (Nat.two_pow_pos _)]
        have : 4503599627370496 * 2 ^ (L - 52) = 2 ^ L := by rw [show (4503599627370496 : Nat) = 2 ^ 52 by decide, ← Nat.pow_add, show 52 + (L - 52) = L by omega]
        omega
      have q2 : mag / 2 ^ (L - 52) < 9007199254740992 := by
        rw [Nat.div_lt_iff_lt_mul (Nat.two_pow_pos _)]
        have : 9007199254740992 * 2 ^ (L - 52) = 2 ^ (L + 1) := by rw [show (9007199254740992 : Nat) = 2 ^ 53 by decide, ← Nat.pow_add, show 53 + (L - 52) = L + 1 by omega]
        omega
      generalize (decide (2 ^ (L - 52) < 2 * (mag % 2 ^ (L - 52))) || 2 ^ (L - 52) == 2 * (mag % 2 ^ (L - 52)) && mag / 2 ^ (L - 52) % 2 == 1) = b
      cases b <;> simp <;> omega
  generalize Toward.even.cut false (mag <<< (place - (place + (L : Int) - 52)).toNat) (place + (L : Int) - 52 - place).toNat = K at hcut
  obtain ⟨k0, k1⟩ := hcut
  show FP (double.word false _)
  unfold Format.word
  simp only [Bool.false_eq_true, if_false]
  refine read_mid ?_ ?_
  · omega
  · omega

theorem int_fp {n : Int} (h0 : 1 ≤ n) (h1 : n ≤ 9007199254740992) : FP (floatOfInt .f64 n) := by
  obtain ⟨k, rfl⟩ := Int.eq_ofNat_of_zero_le (by omega : 0 ≤ n)
  have hk : k ≠ 0 := by omega
  have hlog : k.log2 < 54 := (Nat.log2_lt hk).2 (by rw [show (2:Nat) ^ 54 = 18014398509481984 by decide]; omega)
  have e : floatOfInt .f64 (k : Int) = double.nearest false k 0 := by
    unfold floatOfInt FloatKind.nearest FloatKind.encode
    simp only [Format.write, FloatKind.format, Int.natAbs_natCast]
    rw [decide_eq_false (by omega)]
  rw [e]
  exact nearest_fp (by omega) (by omega) (by omega)

theorem mul_nn {x y : Nat} (hx : FP x) (hy : FP y) : ∃ r, floatBits .mul .f64 x y = some r ∧ NN r := by
  obtain ⟨m, p, _, hx⟩ := hx
  obtain ⟨n, q, _, hy⟩ := hy
  refine ⟨double.write (Datum.number (false ^^ false) (m * n) (p + q)), by simp only [floatBits, FloatKind.format, Format.mul, hx, hy, Datum.product, Option.map_some], write_nn rfl⟩

theorem order_some {x y : Nat} (hx : NN x) (hy : NN y) : ∃ o, double.order x y = some o := by
  unfold NN at hx hy
  unfold Format.order
  cases h1 : double.read x <;> cases h2 : double.read y <;> rw [h1] at hx <;> rw [h2] at hy <;> first | (cases hx; done) | (cases hy; done) | exact ⟨_, rfl⟩

/-- Below or not below: of two that are no NaN. -/
theorem lt_or_ge {x y : Nat} (hx : NN x) (hy : NN y) : (double.order x y == some .lt) = !(double.order x y == some .gt || double.order x y == some .eq) := by
  obtain ⟨o, h⟩ := order_some hx hy
  rw [h]; cases o <;> rfl
theorem gt_or_le {x y : Nat} (hx : NN x) (hy : NN y) : (double.order x y == some .gt) = !(double.order x y == some .lt || double.order x y == some .eq) := by
  obtain ⟨o, h⟩ := order_some hx hy
  rw [h]; cases o <;> rfl

theorem order_self {x : Nat} (hx : NN x) : double.order x x = some .eq := by
  unfold NN at hx
  unfold Format.order
  cases h : double.read x with
  | number s m p => simp [Datum.order]
  | infinity s => simp [Datum.order]
  | nan s t => rw [h] at hx; cases hx

theorem fp_zero {x : Nat} (hx : FP x) : double.order x 0 = some .gt := by
  obtain ⟨m, p, hm, hx⟩ := hx
  have h0 : double.read 0 = .number false 0 (-1074) := by decide
  unfold Format.order
  rw [hx, h0]
  simp only [Datum.order, Ieee.signed]
  have : (m <<< (p - min p (-1074)).toNat : Nat) ≠ 0 := by rw [Nat.shiftLeft_eq]; exact Nat.ne_of_gt (Nat.mul_pos hm (Nat.two_pow_pos _))
  simp only [Bool.false_eq_true, if_false, Nat.zero_shiftLeft]
  rw [Int.compare_eq_gt.2 (by have := Nat.pos_of_ne_zero this; show (0 : Int) < ((m <<< (p - min p (-1074)).toNat : Nat) : Int); exact Int.ofNat_lt.2 this)]
theorem fp_neginf {x : Nat} (hx : FP x) : double.order x 18442240474082181120 = some .gt := by
  obtain ⟨m, p, hm, hx⟩ := hx
  have h0 : double.read 18442240474082181120 = .infinity true := by decide
  unfold Format.order
  rw [hx, h0]
  rfl

theorem rung_mod (L K B : Nat) (h0 : B ≤ K) (h1 : K < 2 * B) : ((L + 1022) * B + K) % B = K - B ∧ ((L + 1022) * B + K) / B = L + 1023 ∧ 0 < B := by
  obtain ⟨r, rfl⟩ := Nat.exists_eq_add_of_le h0
  have hr : r < B := by omega
  have e : (L + 1022) * B + (B + r) = B * (L + 1023) + r := by
    rw [show L + 1023 = (L + 1022) + 1 by omega, Nat.mul_add B, Nat.mul_comm B (L + 1022)]; omega
  rw [e, Nat.mul_add_mod, Nat.mod_eq_of_lt hr, Nat.mul_add_div (by omega), Nat.div_eq_of_lt hr]
  exact ⟨by omega, by omega, by omega⟩

/-- A whole number as a float, exactly. -/
theorem read_int {k : Nat} (h0 : 0 < k) (h1 : k < 9007199254740992) : double.read (floatOfInt .f64 (k : Int)) = .number false (k * 2 ^ (52 - k.log2)) ((k.log2 : Int) - 52) := by
  have hm : k ≠ 0 := by omega
  have hL : k.log2 < 53 := (Nat.log2_lt hm).2 (by rw [show (2:Nat) ^ 53 = 9007199254740992 by decide]; omega)
  have hlo : 2 ^ k.log2 ≤ k := Nat.log2_self_le hm
  have hhi : k < 2 ^ (k.log2 + 1) := Nat.lt_log2_self
  have e : floatOfInt .f64 (k : Int) = double.nearest false k 0 := by
    unfold floatOfInt FloatKind.nearest FloatKind.encode
    simp only [Format.write, FloatKind.format, Int.natAbs_natCast]
    rw [decide_eq_false (by omega)]
  have f52 : (double.fractionBits : Int) = 52 := rfl
  rw [e]
  unfold Format.nearest
  rw [if_neg hm]
  simp only [binade_eq, inf_eq, lp_eq, f52]
  generalize k.log2 = L at *
  have hlast : max ((0 : Int) + (L : Int) - 52) (-1074) = (L : Int) - 52 := by omega
  rw [hlast]
  have e1 : ((0 : Int) - ((L : Int) - 52)).toNat = 52 - L := by omega
  have e2 : ((L : Int) - 52 - 0).toNat = 0 := by omega
  have e4 : ((L : Int) - 52 - (-1074)).toNat = L + 1022 := by omega
  rw [e1, e2, e4]
  have e3 : Toward.even.cut false (k <<< (52 - L)) 0 = k * 2 ^ (52 - L) := by
    unfold Toward.cut
    simp [Nat.shiftLeft_eq, Nat.mod_one]
  rw [e3]
  have p1 : 2 ^ L * 2 ^ (52 - L) = 4503599627370496 := by rw [← Nat.pow_add, show L + (52 - L) = 52 by omega]
  have p2 : 2 ^ (L + 1) * 2 ^ (52 - L) = 9007199254740992 := by rw [← Nat.pow_add, show L + 1 + (52 - L) = 53 by omega]
  have q1 : 4503599627370496 ≤ k * 2 ^ (52 - L) := p1 ▸ Nat.mul_le_mul_right _ hlo
  have q2 : k * 2 ^ (52 - L) < 9007199254740992 := p2 ▸ Nat.mul_lt_mul_of_pos_right hhi (Nat.two_pow_pos _)
  generalize k * 2 ^ (52 - L) = K at *
  obtain ⟨m1, m2, m3⟩ := rung_mod L K 4503599627370496 q1 (by omega)
  obtain ⟨R, hR⟩ : ∃ R, R = (L + 1022) * 4503599627370496 := ⟨_, rfl⟩
  rw [← hR] at m1 m2 ⊢
  have b1 : R ≤ 4836865999795912704 := by omega
  have b2 : 4602678819172646912 ≤ R := by omega
  clear hR
  rw [Nat.min_eq_left (by omega)]
  unfold Format.word
  simp only [Bool.false_eq_true, if_false]
  unfold Format.read
  simp only [binade_eq, inf_eq, sw_eq, lp_eq]
  have s1 : (R + K) % 9223372036854775808 = R + K := Nat.mod_eq_of_lt (by omega)
  have s2 : ((R + K) / 9223372036854775808 % 2 == 1) = false := by rw [Nat.div_eq_of_lt (by omega)]; rfl
  have c1 : ¬ (R + K < 4503599627370496) := by omega
  have c2 : R + K < 9218868437227405312 := by omega
  have s3 : 4503599627370496 + (K - 4503599627370496) = K := by omega
  have s4 : (-1074 : Int) + ((L + 1023 - 1 : Nat) : Int) = (L : Int) - 52 := by omega
  simp only [s1, s2, m1, m2, c1, c2, if_true, if_false, s3, s4]

theorem div64 {n : Int} (h0 : 1 ≤ n) (h1 : n ≤ 1000000) : ∃ r, floatBits .quo .f64 (floatOfInt .f64 n) 4634204016564240384 = some r ∧ FP r := by
  obtain ⟨k, rfl⟩ := Int.eq_ofNat_of_zero_le (by omega : 0 ≤ n)
  have hm : k ≠ 0 := by omega
  have hr := read_int (k := k) (by omega) (by omega)
  have h64 : double.read 4634204016564240384 = .number false 4503599627370496 (-46) := by decide +kernel
  have hL : k.log2 < 20 := (Nat.log2_lt hm).2 (by rw [show (2:Nat) ^ 20 = 1048576 by decide]; omega)
  have hlo : 2 ^ k.log2 ≤ k := Nat.log2_self_le hm
  have hhi : k < 2 ^ (k.log2 + 1) := Nat.lt_log2_self
  generalize k.log2 = L at *
  have p1 : 2 ^ L * 2 ^ (52 - L) = 4503599627370496 := by rw [← Nat.pow_add, show L + (52 - L) = 52 by omega]
  have p2 : 2 ^ (L + 1) * 2 ^ (52 - L) = 9007199254740992 := by rw [← Nat.pow_add, show L + 1 + (52 - L) = 53 by omega]
  have q1 : 4503599627370496 ≤ k * 2 ^ (52 - L) := p1 ▸ Nat.mul_le_mul_right _ hlo
  have q2 : k * 2 ^ (52 - L) < 9007199254740992 := p2 ▸ Nat.mul_lt_mul_of_pos_right hhi (Nat.two_pow_pos _)
  generalize k * 2 ^ (52 - L) = K at *
  have lK : K.log2 = 52 := by
    have a1 : K.log2 < 53 := (Nat.log2_lt (by omega)).2 (by rw [show (2:Nat) ^ 53 = 9007199254740992 by decide]; omega)
    have a2 : 52 ≤ K.log2 := (Nat.le_log2 (by omega)).2 (by rw [show (2:Nat) ^ 52 = 4503599627370496 by decide]; omega)
    omega
  have l52 : (4503599627370496 : Nat).log2 = 52 := by decide +kernel
  have hq : Datum.quotient (double.fractionBits + 2) (.number false K ((L : Int) - 52)) (.number false 4503599627370496 (-46)) = some (.number false (8 * K) ((L : Int) - 61)) := by
    have hd : double.fractionBits + 2 + 52 - 52 = 54 := rfl
    have d1 : K <<< 54 / 4503599627370496 = 4 * K := by rw [Nat.shiftLeft_eq]; omega
    have d2 : K <<< 54 % 4503599627370496 = 0 := by rw [Nat.shiftLeft_eq]; omega
    have g1 : 2 * (4 * K) + ((0 : Nat) != 0).toNat = 8 * K := by
      have : ((0 : Nat) != 0).toNat = 0 := rfl
      omega
    have g2 : (L : Int) - 52 - (-46) - ((54 : Nat) : Int) - 1 = (L : Int) - 61 := by omega
    simp only [Datum.quotient, lK, l52, hd, d1, d2]
    rw [if_neg (by decide), g1, g2]
    rfl
  refine ⟨double.write (.number false (8 * K) ((L : Int) - 61)), ?_, ?_⟩
  · simp only [floatBits, FloatKind.format, Format.div, hr, h64, hq, Option.map_some]
  · have l8 : (8 * K).log2 = 55 := by
      have a1 : (8 * K).log2 < 56 := (Nat.log2_lt (by omega)).2 (by rw [show (2:Nat) ^ 56 = 72057594037927936 by decide]; omega)
      have a2 : 55 ≤ (8 * K).log2 := (Nat.le_log2 (by omega)).2 (by rw [show (2:Nat) ^ 55 = 36028797018963968 by decide]; omega)
      omega
    exact nearest_fp (by omega) (by rw [l8]; omega) (by rw [l8]; omega)
end Go.Proofs.Ytkbppaddghfgpaa
