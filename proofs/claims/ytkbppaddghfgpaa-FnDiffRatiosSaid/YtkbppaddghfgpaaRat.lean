/- Ratios as floats: twice a number, divided by another one; they grow with the number. Plain facts, no program in sight. -/
import Derived.Test.YtkbppaddghfgpaaFlt
set_option linter.unusedVariables false
set_option linter.unusedSimpArgs false
namespace Go.Proofs.Ytkbppaddghfgpaa
open Ieee

theorem read_pos {r : Nat} (h : r < 9218868437227405312) : double.read r = .number false (if r < 4503599627370496 then r else 4503599627370496 + r % 4503599627370496) (-1074 + ((r / 4503599627370496 - 1 : Nat) : Int)) := by
  unfold Format.read
  simp only [binade_eq, inf_eq, sw_eq, lp_eq]
  have e : r % 9223372036854775808 = r := Nat.mod_eq_of_lt (by omega)
  have e2 : (r / 9223372036854775808 % 2 == 1) = false := by rw [Nat.div_eq_of_lt (by omega)]; rfl
  rw [e, e2]
  by_cases h1 : r < 4503599627370496
  · rw [if_pos h1, if_pos h1, Nat.div_eq_of_lt h1]
    rfl
  · rw [if_neg h1, if_neg h1, if_pos h]

theorem cmp_le {x y : Int} (h : x ≤ y) : (some (compare x y) == some Ordering.lt || some (compare x y) == some Ordering.eq) = true := by
  rcases Int.lt_or_eq_of_le h with h | h
  · have : compare x y = .lt := by rw [Int.compare_eq_lt]; exact h
    rw [this]; rfl
  · have : compare x y = .eq := by rw [Int.compare_eq_eq]; exact h
    rw [this]; rfl

theorem order_le {r1 r2 : Nat} (h : r1 ≤ r2) (h2 : r2 < 9218868437227405312) : (double.order r1 r2 == some .lt || double.order r1 r2 == some .eq) = true := by
  unfold Format.order
  rw [read_pos (Nat.lt_of_le_of_lt h h2), read_pos h2]
  simp only [Datum.order]
  refine cmp_le ?_
  have q : r1 / 4503599627370496 ≤ r2 / 4503599627370496 := Nat.div_le_div_right h
  obtain ⟨q1, hq1⟩ : ∃ q1, q1 = r1 / 4503599627370496 := ⟨_, rfl⟩
  obtain ⟨q2, hq2⟩ : ∃ q2, q2 = r2 / 4503599627370496 := ⟨_, rfl⟩
  have e1 : min (-1074 + ((r1 / 4503599627370496 - 1 : Nat) : Int)) (-1074 + ((r2 / 4503599627370496 - 1 : Nat) : Int)) = -1074 + ((r1 / 4503599627370496 - 1 : Nat) : Int) := by omega
  rw [e1]
  have e2 : (-1074 + ((r1 / 4503599627370496 - 1 : Nat) : Int) - (-1074 + ((r1 / 4503599627370496 - 1 : Nat) : Int))).toNat = 0 := by omega
  have e3 : (-1074 + ((r2 / 4503599627370496 - 1 : Nat) : Int) - (-1074 + ((r1 / 4503599627370496 - 1 : Nat) : Int))).toNat = (r2 / 4503599627370496 - 1) - (r1 / 4503599627370496 - 1) := by omega
  rw [e2, e3]
  simp only [signed, Bool.false_eq_true, if_false, Nat.shiftLeft_eq, Nat.pow_zero, Nat.mul_one]
  apply Int.ofNat_le.2
  by_cases h1 : r1 < 4503599627370496
  · rw [if_pos h1]
    have d0 : r1 / 4503599627370496 = 0 := Nat.div_eq_of_lt h1
    by_cases h3 : r2 < 4503599627370496
    · rw [if_pos h3]
      exact Nat.le_trans h (Nat.le_mul_of_pos_right _ (Nat.two_pow_pos _))
    · rw [if_neg h3]
      refine Nat.le_trans ?_ (Nat.le_mul_of_pos_right _ (Nat.two_pow_pos _))
      omega
  · have h3 : ¬ r2 < 4503599627370496 := by omega
    rw [if_neg h1, if_neg h3]
    rcases Nat.lt_or_eq_of_le q with hlt | heq
    · have : 2 ^ 1 ≤ 2 ^ (r2 / 4503599627370496 - 1 - (r1 / 4503599627370496 - 1)) := Nat.pow_le_pow_right (by decide) (by omega)
      have := Nat.mul_le_mul_left (4503599627370496 + r2 % 4503599627370496) this
      omega
    · have hz : r2 / 4503599627370496 - 1 - (r1 / 4503599627370496 - 1) = 0 := by omega
      rw [hz, Nat.pow_zero, Nat.mul_one]
      omega

theorem float_nat (k : Nat) : floatOfInt .f64 (k : Int) = double.nearest false k 0 := by
  unfold floatOfInt FloatKind.nearest FloatKind.encode
  simp only [Format.write, FloatKind.format, Int.natAbs_natCast]
  rw [decide_eq_false (by omega)]

theorem word_pos (r : Nat) : double.word false r = r := by unfold Format.word; simp only [Bool.false_eq_true, if_false]
theorem log_pow {K d : Nat} (h0 : 4503599627370496 ≤ K) (h1 : K < 9007199254740992) : (K * 2 ^ d).log2 = 52 + d := by
  have hp := Nat.two_pow_pos d
  have hne : K * 2 ^ d ≠ 0 := Nat.mul_ne_zero (by omega) (by omega)
  have a1 : (K * 2 ^ d).log2 < 53 + d := (Nat.log2_lt hne).2 (by rw [Nat.pow_add]; exact Nat.mul_lt_mul_of_pos_right (by rw [show (2:Nat) ^ 53 = 9007199254740992 by decide]; omega) hp)
  have a2 : 52 + d ≤ (K * 2 ^ d).log2 := (Nat.le_log2 hne).2 (by rw [Nat.pow_add]; exact Nat.mul_le_mul_right _ (by rw [show (2:Nat) ^ 52 = 4503599627370496 by decide]; omega))
  omega
theorem cut_pow {K d L : Nat} (h : (K * 2 ^ d).log2 = L) (hd : d ≤ L) : Toward.even.cut false (K * 2 ^ d) d = K := by
  unfold Toward.cut
  have m : min d ((K * 2 ^ d).log2 + 2) = d := by rw [h]; omega
  have p := Nat.two_pow_pos d
  have b1 : decide (2 ^ d < 0) = false := by simp
  have b2 : (2 ^ d == 0) = false := by simp
  simp only [m, Nat.shiftLeft_eq, Nat.one_mul, Nat.mul_div_cancel _ p, Nat.mul_mod_left, Nat.mul_zero, b1, b2, Bool.false_or, Bool.false_and, Bool.toNat_false, Nat.add_zero]
/-- The word of K * 2 ^ d at a place, where K is a full significand: exact. -/
theorem nearest_exact (K d : Nat) (place : Int) (h0 : 4503599627370496 ≤ K) (h1 : K < 9007199254740992) (hp : -1074 ≤ place + d) : double.nearest false (K * 2 ^ d) place = min ((place + d + 1074).toNat * 4503599627370496 + K) 9218868437227405312 := by
  have hlog := log_pow (d := d) h0 h1
  have f52 : (double.fractionBits : Int) = 52 := rfl
  have hne : K * 2 ^ d ≠ 0 := by have := Nat.two_pow_pos d; exact Nat.mul_ne_zero (by omega) (by omega)
  have e4 := cut_pow hlog (by omega)
  unfold Format.nearest
  rw [if_neg hne]
  simp only [binade_eq, inf_eq, lp_eq, f52, hlog]
  have hlast : max (place + ((52 + d : Nat) : Int) - 52) (-1074) = place + d := by omega
  rw [hlast]
  have e1 : (place - (place + (d : Int))).toNat = 0 := by omega
  have e2 : (place + (d : Int) - place).toNat = d := by omega
  have e3 : (place + (d : Int) - (-1074)).toNat = (place + d + 1074).toNat := by omega
  rw [e1, e2, e3, Nat.shiftLeft_zero, e4, word_pos]

/-- A positive whole number, its significand. -/
theorem signif {k : Nat} (h0 : 0 < k) (h1 : k < 9007199254740992) : 4503599627370496 ≤ k * 2 ^ (52 - k.log2) ∧ k * 2 ^ (52 - k.log2) < 9007199254740992 ∧ k.log2 ≤ 52 := by
  have hm : k ≠ 0 := by omega
  have hL : k.log2 < 53 := (Nat.log2_lt hm).2 (by rw [show (2:Nat) ^ 53 = 9007199254740992 by decide]; omega)
  have hlo : 2 ^ k.log2 ≤ k := Nat.log2_self_le hm
  have hhi : k < 2 ^ (k.log2 + 1) := Nat.lt_log2_self
  have p1 : 2 ^ k.log2 * 2 ^ (52 - k.log2) = 4503599627370496 := by rw [← Nat.pow_add, show k.log2 + (52 - k.log2) = 52 by omega]
  have p2 : 2 ^ (k.log2 + 1) * 2 ^ (52 - k.log2) = 9007199254740992 := by rw [← Nat.pow_add, show k.log2 + 1 + (52 - k.log2) = 53 by omega]
  exact ⟨p1 ▸ Nat.mul_le_mul_right _ hlo, p2 ▸ Nat.mul_lt_mul_of_pos_right hhi (Nat.two_pow_pos _), by omega⟩

theorem read_two : double.read 4611686018427387904 = .number false 4503599627370496 (-51) := by decide +kernel
theorem log_double {k : Nat} (h : 0 < k) : (2 * k).log2 = k.log2 + 1 := by
  have hm : k ≠ 0 := by omega
  have hlo : 2 ^ k.log2 ≤ k := Nat.log2_self_le hm
  have hhi : k < 2 ^ (k.log2 + 1) := Nat.lt_log2_self
  have a1 : (2 * k).log2 < k.log2 + 2 := (Nat.log2_lt (by omega)).2 (by rw [Nat.pow_succ]; omega)
  have a2 : k.log2 + 1 ≤ (2 * k).log2 := (Nat.le_log2 (by omega)).2 (by rw [Nat.pow_succ]; omega)
  omega
/-- A positive whole number's word. -/
theorem nat_word {k : Nat} (h0 : 0 < k) (h1 : k < 9007199254740992) : floatOfInt .f64 (k : Int) = min ((k.log2 + 1022) * 4503599627370496 + k * 2 ^ (52 - k.log2)) 9218868437227405312 := by
  rw [float_nat]
  obtain ⟨u1, u2, u3⟩ := signif h0 h1
  have f52 : (double.fractionBits : Int) = 52 := rfl
  have hne : k ≠ 0 := by omega
  unfold Format.nearest
  rw [if_neg hne]
  simp only [binade_eq, inf_eq, lp_eq, f52]
  generalize k.log2 = L at *
  have hlast : max ((0 : Int) + (L : Int) - 52) (-1074) = (L : Int) - 52 := by omega
  rw [hlast]
  have g1 : ((0 : Int) - ((L : Int) - 52)).toNat = 52 - L := by omega
  have g2 : ((L : Int) - 52 - 0).toNat = 0 := by omega
  have g4 : ((L : Int) - 52 - (-1074)).toNat = L + 1022 := by omega
  rw [g1, g2, g4]
  have g3 : Toward.even.cut false (k <<< (52 - L)) 0 = k * 2 ^ (52 - L) := by
    unfold Toward.cut
    simp [Nat.shiftLeft_eq, Nat.mod_one]
  rw [g3, word_pos]
theorem half_word {m : Nat} (h : 1 ≤ m) : 2 * m * 2 ^ (52 - (m.log2 + 1)) = m * 2 ^ (52 - m.log2) ∨ 52 ≤ m.log2 := by
  by_cases hl : m.log2 < 52
  · left
    rw [show 52 - m.log2 = (52 - (m.log2 + 1)) + 1 by omega, Nat.pow_succ, Nat.mul_comm 2 m, Nat.mul_assoc, Nat.mul_comm 2]
  · right; omega
/-- Twice a whole number is exact. -/
theorem two_times {m : Nat} (h1 : m < 4503599627370496) : floatBits .mul .f64 4611686018427387904 (floatOfInt .f64 (m : Int)) = some (floatOfInt .f64 ((2 * m : Nat) : Int)) := by
  by_cases h0 : m = 0
  · subst h0; decide +kernel
  · obtain ⟨s1, s2, s3⟩ := signif (k := m) (by omega) (by omega)
    have hw := nat_word (k := 2 * m) (by omega) (by omega)
    have hl := log_double (k := m) (by omega)
    have h52 : m.log2 < 52 := (Nat.log2_lt (by omega)).2 (by rw [show (2:Nat) ^ 52 = 4503599627370496 by decide]; omega)
    have e : 2 * m * 2 ^ (52 - (m.log2 + 1)) = m * 2 ^ (52 - m.log2) := (half_word (by omega)).resolve_right (by omega)
    rw [hl, e] at hw
    have hr := read_int (k := m) (by omega) (by omega)
    rw [hw]
    generalize m * 2 ^ (52 - m.log2) = K at *
    generalize m.log2 = L at *
    have hx := nearest_exact K 52 (-51 + ((L : Int) - 52)) s1 s2 (by omega)
    have e7 : (-51 + ((L : Int) - 52) + ((52 : Nat) : Int) + 1074).toNat = L + 1 + 1022 := by omega
    rw [e7] at hx
    rw [← hx]
    simp only [floatBits, FloatKind.format, Format.mul, read_two, hr, Datum.product, Option.map_some, Bool.xor_self]
    rw [Nat.mul_comm 4503599627370496, show (2 : Nat) ^ 52 = 4503599627370496 by decide]
    rfl

theorem log_signif {K : Nat} (h0 : 4503599627370496 ≤ K) (h1 : K < 9007199254740992) : K.log2 = 52 := by
  have a1 : K.log2 < 53 := (Nat.log2_lt (by omega)).2 (by rw [show (2:Nat) ^ 53 = 9007199254740992 by decide]; omega)
  have a2 : 52 ≤ K.log2 := (Nat.le_log2 (by omega)).2 (by rw [show (2:Nat) ^ 52 = 4503599627370496 by decide]; omega)
  omega
/-- The quotient of two significands, with its last digit. -/
theorem quo_mag {A N : Nat} (a0 : 4503599627370496 ≤ A) (a1 : A < 9007199254740992) (n0 : 4503599627370496 ≤ N) (n1 : N < 9007199254740992) :
    ∃ mag, mag = 2 * (A * 18014398509481984 / N) + (A * 18014398509481984 % N != 0).toNat ∧ 18014398509481984 ≤ mag ∧ mag < 72057594037927936 ∧ mag * N ≤ 2 * (A * 18014398509481984) + N ∧ 2 * (A * 18014398509481984) ≤ mag * N + N := by
  refine ⟨_, rfl, ?_⟩
  obtain ⟨D, hD⟩ : ∃ D, D = A * 18014398509481984 := ⟨_, rfl⟩
  rw [← hD]
  have q0 : 9007199254740992 ≤ D / N := (Nat.le_div_iff_mul_le (by omega)).2 (by
    have := Nat.mul_le_mul_left 9007199254740992 (Nat.le_of_lt n1)
    omega)
  have q1 : D / N < 36028797018963968 := (Nat.div_lt_iff_lt_mul (by omega)).2 (by
    have := Nat.mul_le_mul_left 36028797018963968 n0
    omega)
  have e := Nat.div_add_mod D N
  have l := Nat.mod_lt D (show 0 < N by omega)
  rw [Nat.mul_comm] at e
  generalize D / N = q at *
  generalize D % N = r at *
  by_cases hr : r = 0
  · have b : (r != 0).toNat = 0 := by rw [hr]; rfl
    rw [b, Nat.add_zero, Nat.mul_assoc]
    omega
  · have b : (r != 0).toNat = 1 := by
      have : (r != 0) = true := by simp [hr]
      rw [this]; rfl
    rw [b, Nat.add_mul, Nat.mul_assoc, Nat.one_mul]
    omega
theorem log_either {mag : Nat} (h0 : 18014398509481984 ≤ mag) (h1 : mag < 72057594037927936) : mag.log2 = 54 ∧ mag < 36028797018963968 ∨ mag.log2 = 55 ∧ 36028797018963968 ≤ mag := by
  have hne : mag ≠ 0 := by omega
  have a2 : 54 ≤ mag.log2 := (Nat.le_log2 hne).2 (by rw [show (2:Nat) ^ 54 = 18014398509481984 by decide]; omega)
  by_cases h : mag < 36028797018963968
  · have a1 : mag.log2 < 55 := (Nat.log2_lt hne).2 (by rw [show (2:Nat) ^ 55 = 36028797018963968 by decide]; omega)
    exact .inl ⟨by omega, h⟩
  · have a1 : mag.log2 < 56 := (Nat.log2_lt hne).2 (by rw [show (2:Nat) ^ 56 = 72057594037927936 by decide]; omega)
    have a3 : 55 ≤ mag.log2 := (Nat.le_log2 hne).2 (by rw [show (2:Nat) ^ 55 = 36028797018963968 by decide]; omega)
    exact .inr ⟨by omega, by omega⟩
/-- Dropping d of the digits: within half a unit. -/
theorem cut_near {mag d : Nat} (hd : 1 ≤ d) (hl : d ≤ mag.log2) : ∃ k, Toward.even.cut false mag d = k ∧ mag / 2 ^ d ≤ k ∧ k ≤ mag / 2 ^ d + 1 ∧ k * 2 ^ d ≤ mag + 2 ^ (d - 1) ∧ mag ≤ k * 2 ^ d + 2 ^ (d - 1) := by
  refine ⟨_, rfl, ?_⟩
  unfold Toward.cut
  have m : min d (mag.log2 + 2) = d := by omega
  have p := Nat.two_pow_pos d
  have e2 : 2 ^ d = 2 * 2 ^ (d - 1) := by rw [show d = (d - 1) + 1 by omega, Nat.pow_succ, Nat.add_sub_cancel]; omega
  simp only [m, Nat.shiftLeft_eq, Nat.one_mul]
  have e := Nat.div_add_mod mag (2 ^ d)
  have l := Nat.mod_lt mag p
  rw [Nat.mul_comm] at e
  generalize 2 ^ (d - 1) = h at *
  generalize 2 ^ d = g at *
  generalize mag / g = q at *
  generalize mag % g = r at *
  by_cases hb : (decide (g < 2 * r) || g == 2 * r && q % 2 == 1) = true
  · rw [hb, Bool.toNat_true, Nat.add_mul, Nat.one_mul]
    simp at hb
    omega
  · rw [eq_false_of_ne_true hb, Bool.toNat_false, Nat.add_zero]
    simp at hb
    omega
theorem rat_word {a n : Nat} (h0 : 0 < a) (h1 : a < 1099511627776) (n0 : 0 < n) (n1 : n < 1099511627776) :
    ∃ r L k, floatBits .quo .f64 (floatOfInt .f64 (a : Int)) (floatOfInt .f64 (n : Int)) = some r ∧ r = L * 4503599627370496 + k ∧ 4503599627370496 ≤ k ∧ k ≤ 9007199254740992 ∧ L ≤ 1200 ∧
      k * (2 ^ L * n) ≤ a * 2 ^ 1074 + 2 ^ L * n ∧ a * 2 ^ 1074 ≤ k * (2 ^ L * n) + 2 ^ L * n := by
  obtain ⟨s1, s2, s3⟩ := signif (k := a) (by omega) (by omega)
  obtain ⟨t1, t2, t3⟩ := signif (k := n) (by omega) (by omega)
  have hra := read_int (k := a) (by omega) (by omega)
  have hrn := read_int (k := n) (by omega) (by omega)
  have la40 : a.log2 < 40 := (Nat.log2_lt (by omega)).2 (by rw [show (2:Nat) ^ 40 = 1099511627776 by decide]; omega)
  have ln40 : n.log2 < 40 := (Nat.log2_lt (by omega)).2 (by rw [show (2:Nat) ^ 40 = 1099511627776 by decide]; omega)
  have hA : a * 2 ^ (52 - a.log2) = a * 2 ^ (52 - a.log2) := rfl
  obtain ⟨A, hA⟩ : ∃ A, A = a * 2 ^ (52 - a.log2) := ⟨_, rfl⟩
  obtain ⟨N, hN⟩ : ∃ N, N = n * 2 ^ (52 - n.log2) := ⟨_, rfl⟩
  rw [← hA] at s1 s2 hra
  rw [← hN] at t1 t2 hrn
  generalize a.log2 = la at *
  generalize n.log2 = ln at *
  obtain ⟨mag, hmag, g0, g1, g2, g3⟩ := quo_mag s1 s2 t1 t2
  have lA := log_signif s1 s2
  have lN := log_signif t1 t2
  have hq : Datum.quotient (double.fractionBits + 2) (.number false A ((la : Int) - 52)) (.number false N ((ln : Int) - 52)) = some (.number false mag ((la : Int) - ln - 55)) := by
    have hd : double.fractionBits + 2 + 52 - 52 = 54 := rfl
    have hs : A <<< 54 = A * 18014398509481984 := by rw [Nat.shiftLeft_eq]
    have hz : ¬ N = 0 := by omega
    simp only [Datum.quotient, lA, lN, hd, hs, if_neg hz, ← hmag, Bool.xor_self]
    have : (la : Int) - 52 - ((ln : Int) - 52) - ((54 : Nat) : Int) - 1 = (la : Int) - ln - 55 := by omega
    rw [this]
  obtain ⟨d, hd2, hld, hlow, hhigh⟩ : ∃ d, (d = 2 ∨ d = 3) ∧ mag.log2 = 52 + d ∧ 4503599627370496 ≤ mag / 2 ^ d ∧ mag / 2 ^ d < 9007199254740992 := by
    rcases log_either g0 g1 with ⟨h, h'⟩ | ⟨h, h'⟩
    · exact ⟨2, .inl rfl, h, by rw [show 2 ^ 2 = 4 by decide]; omega, by rw [show 2 ^ 2 = 4 by decide]; omega⟩
    · exact ⟨3, .inr rfl, h, by rw [show 2 ^ 3 = 8 by decide]; omega, by rw [show 2 ^ 3 = 8 by decide]; omega⟩
  obtain ⟨k, hk, k0, k1, k2, k3⟩ := cut_near (mag := mag) (d := d) (by omega) (by omega)
  have f52 : (double.fractionBits : Int) = 52 := rfl
  have hne : mag ≠ 0 := by omega
  have hnear : double.nearest false mag ((la : Int) - ln - 55) = ((la : Int) - ln + d + 1019).toNat * 4503599627370496 + k := by
    unfold Format.nearest
    rw [if_neg hne]
    simp only [binade_eq, inf_eq, lp_eq, f52, hld]
    have hlast : max ((la : Int) - ln - 55 + ((52 + d : Nat) : Int) - 52) (-1074) = (la : Int) - ln - 55 + d := by omega
    rw [hlast]
    have e1 : ((la : Int) - ln - 55 - ((la : Int) - ln - 55 + d)).toNat = 0 := by omega
    have e2 : ((la : Int) - ln - 55 + d - ((la : Int) - ln - 55)).toNat = d := by omega
    have e3 : ((la : Int) - ln - 55 + d - (-1074)).toNat = ((la : Int) - ln + d + 1019).toNat := by omega
    rw [e1, e2, e3, Nat.shiftLeft_zero, hk, word_pos]
    have h12 : ((la : Int) - ln + d + 1019).toNat ≤ 1200 := by omega
    have h13 : k ≤ 9007199254740992 := by omega
    clear hne e1 e2 e3 hlast hk
    generalize ((la : Int) - ln + d + 1019).toNat = E at *
    have h14 := Nat.mul_le_mul_right 4503599627370496 h12
    exact Nat.min_eq_left (Nat.le_trans (Nat.add_le_add h14 h13) (by decide))
  obtain ⟨L, hL⟩ : ∃ L, L = ((la : Int) - ln + d + 1019).toNat := ⟨_, rfl⟩
  rw [← hL] at hnear
  have eX : 2 ^ L * n = (2 ^ d * N) * 2 ^ (la + 967) := by
    have hexp : d + (52 - ln) + (la + 967) = L := by omega
    rw [hN, Nat.mul_comm n, ← Nat.mul_assoc, ← Nat.pow_add, Nat.mul_right_comm, ← Nat.pow_add, hexp]
  have eT : a * 2 ^ 1074 = (2 * (A * 18014398509481984)) * 2 ^ (la + 967) := by
    rw [hA, show (18014398509481984 : Nat) = 2 ^ 54 by decide]
    have : 2 * (a * 2 ^ (52 - la) * 2 ^ 54) * 2 ^ (la + 967) = a * (2 ^ (52 - la) * 2 ^ 54 * 2 * 2 ^ (la + 967)) := by
      simp only [Nat.mul_assoc, Nat.mul_left_comm, Nat.mul_comm]
    have hexp : 52 - la + 54 + 1 + (la + 967) = 1074 := by omega
    rw [this, ← Nat.pow_add, ← Nat.pow_succ, ← Nat.pow_add, hexp]
  have hin : k * (2 ^ d * N) ≤ 2 * (A * 18014398509481984) + 2 ^ d * N ∧ 2 * (A * 18014398509481984) ≤ k * (2 ^ d * N) + 2 ^ d * N := by
    clear eX eT hL hnear hk k0 k1 hlow hhigh hld hmag hq hra hrn hA hN
    have i1 := Nat.mul_le_mul_right N k2
    have i2 := Nat.mul_le_mul_right N k3
    rw [Nat.add_mul] at i1 i2
    rw [← Nat.mul_assoc]
    generalize mag * N = Q at *
    generalize A * 18014398509481984 = D at *
    have two : ∃ e, 2 ^ d = 2 * e ∧ 2 ^ (d - 1) = e ∧ 1 ≤ e := by
      rcases hd2 with rfl | rfl
      · exact ⟨2, rfl, rfl, by omega⟩
      · exact ⟨4, rfl, rfl, by omega⟩
    obtain ⟨e, he1, he2, he3⟩ := two
    rw [he1, he2] at i1 i2
    rw [he1]
    have he4 := Nat.mul_le_mul_right N he3
    rw [Nat.mul_assoc 2 e N]
    generalize k * (2 * e) * N = Z at *
    generalize e * N = Y at *
    omega
  refine ⟨_, L, k, ?_, hnear, by omega, by omega, by omega, ?_, ?_⟩
  · simp only [floatBits, FloatKind.format, Format.div, hra, hrn, hq, Option.map_some]
    rfl
  · rw [eX, eT, ← Nat.mul_assoc, ← Nat.add_mul]
    exact Nat.mul_le_mul_right _ hin.1
  · have := Nat.mul_le_mul_right (2 ^ (la + 967)) hin.2
    rw [Nat.add_mul, Nat.mul_assoc k] at this
    rw [eX, eT]
    exact this
/-- The ratio's word grows with the numerator. -/
theorem rat_grows {L1 L2 k1 k2 a1 a2 n T : Nat} (hk1 : 4503599627370496 ≤ k1) (hk1' : k1 ≤ 9007199254740992) (hk2 : 4503599627370496 ≤ k2) (hk2' : k2 ≤ 9007199254740992)
    (i1 : k1 * (2 ^ L1 * n) ≤ a1 * T + 2 ^ L1 * n) (i1' : a1 * T ≤ k1 * (2 ^ L1 * n) + 2 ^ L1 * n) (i2 : k2 * (2 ^ L2 * n) ≤ a2 * T + 2 ^ L2 * n) (i2' : a2 * T ≤ k2 * (2 ^ L2 * n) + 2 ^ L2 * n)
    (ha : a1 + 2 ≤ a2) (h1 : a1 < 1099511627776) (n0 : 0 < n) : L1 * 4503599627370496 + k1 ≤ L2 * 4503599627370496 + k2 := by
  rcases Nat.lt_trichotomy L1 L2 with h | h | h
  · have := Nat.mul_le_mul_right 4503599627370496 (show L1 + 1 ≤ L2 from h)
    rw [Nat.add_mul] at this
    omega
  · subst h
    have hX : 0 < 2 ^ L1 * n := Nat.mul_pos (Nat.two_pow_pos _) n0
    have p := Nat.mul_le_mul_right T ha
    rw [Nat.add_mul] at p
    have q := Nat.mul_le_mul_right (2 ^ L1 * n) hk1
    have t := Nat.mul_le_mul_right T (Nat.le_of_lt h1)
    generalize 2 ^ L1 * n = X at *
    by_cases hc : k1 ≤ k2
    · omega
    · have c := Nat.mul_le_mul_right X (show k2 + 1 ≤ k1 by omega)
      rw [Nat.add_mul] at c
      omega
  · exfalso
    have hX : 0 < 2 ^ L2 * n := Nat.mul_pos (Nat.two_pow_pos _) n0
    have e : 2 * (2 ^ L2 * n) ≤ 2 ^ L1 * n := by
      rw [← Nat.mul_assoc]
      refine Nat.mul_le_mul_right _ ?_
      rw [Nat.mul_comm, ← Nat.pow_succ]
      exact Nat.pow_le_pow_right (by decide) h
    have p := Nat.mul_le_mul_right T ha
    rw [Nat.add_mul] at p
    have q1 := Nat.mul_le_mul_right (2 ^ L1 * n) hk1
    have q2 := Nat.mul_le_mul_right (2 ^ L2 * n) hk2'
    have t := Nat.mul_le_mul_right T (Nat.le_of_lt h1)
    generalize 2 ^ L1 * n = X at *
    generalize 2 ^ L2 * n = Y at *
    generalize k1 * X = U at *
    generalize k2 * Y = V at *
    generalize a1 * T = W at *
    generalize a2 * T = Z at *
    omega

/-- The ratio's word: 2 m / n, and 1 for n = 0 is not meant here. -/
def ratW (m n : Nat) : Nat := (floatBits .quo .f64 (floatOfInt .f64 ((2 * m : Nat) : Int)) (floatOfInt .f64 (n : Int))).getD 0
theorem rat_zero {n : Nat} (n0 : 0 < n) (n1 : n < 1099511627776) : floatBits .quo .f64 (floatOfInt .f64 ((0 : Nat) : Int)) (floatOfInt .f64 (n : Int)) = some 0 := by
  obtain ⟨t1, t2, t3⟩ := signif (k := n) (by omega) (by omega)
  have hrn := read_int (k := n) (by omega) (by omega)
  have h0 : double.read (floatOfInt .f64 ((0 : Nat) : Int)) = .number false 0 (-1074) := by decide +kernel
  have hz : ¬ n * 2 ^ (52 - n.log2) = 0 := by omega
  simp only [floatBits, FloatKind.format, Format.div, hrn, h0, Datum.quotient, if_neg hz, Nat.zero_shiftLeft, Nat.zero_div, Nat.zero_mod, Option.map_some, Format.write]
  have : (2 * 0 + ((0 : Nat) != 0).toNat) = 0 := rfl
  rw [this]
  unfold Format.nearest
  rw [if_pos rfl]
  rfl
theorem rat_some {m n : Nat} (h1 : m < 549755813888) (n0 : 0 < n) (n1 : n < 1099511627776) :
    floatBits .quo .f64 (floatOfInt .f64 ((2 * m : Nat) : Int)) (floatOfInt .f64 (n : Int)) = some (ratW m n) ∧ ratW m n < 9218868437227405312 := by
  by_cases h0 : m = 0
  · subst h0
    have := rat_zero n0 n1
    unfold ratW
    rw [Nat.mul_zero, this]
    exact ⟨rfl, by decide⟩
  · obtain ⟨r, L, k, hr, hrL, hk, hk', hL, _, _⟩ := rat_word (a := 2 * m) (by omega) (by omega) n0 n1
    unfold ratW
    rw [hr]
    refine ⟨rfl, ?_⟩
    have := Nat.mul_le_mul_right 4503599627370496 hL
    show r < _
    omega
theorem rat_le {m1 m2 n : Nat} (h : m1 ≤ m2) (h1 : m2 < 549755813888) (n0 : 0 < n) (n1 : n < 1099511627776) : (double.order (ratW m1 n) (ratW m2 n) == some .lt || double.order (ratW m1 n) (ratW m2 n) == some .eq) = true := by
  refine order_le ?_ (rat_some h1 n0 n1).2
  rcases Nat.lt_or_eq_of_le h with hlt | rfl
  · by_cases h0 : m1 = 0
    · subst h0
      have := rat_zero n0 n1
      unfold ratW
      rw [Nat.mul_zero, this]
      exact Nat.zero_le _
    · obtain ⟨r1, L1, k1, hr1, rfl, p1, p2, _, p3, p4⟩ := rat_word (a := 2 * m1) (by omega) (by omega) n0 n1
      obtain ⟨r2, L2, k2, hr2, rfl, q1, q2, _, q3, q4⟩ := rat_word (a := 2 * m2) (by omega) (by omega) n0 n1
      unfold ratW
      rw [hr1, hr2]
      obtain ⟨T, hT⟩ : ∃ T, T = 2 ^ 1074 := ⟨_, rfl⟩
      rw [← hT] at p3 p4 q3 q4
      exact rat_grows p1 p2 q1 q2 p3 p4 q3 q4 (by omega) (by omega) n0
  · exact Nat.le_refl _
theorem rat_eq {m n : Nat} (h1 : m < 549755813888) (n0 : 0 < n) (n1 : n < 1099511627776) : (double.order (ratW m n) (ratW m n) == some .eq) = true := by
  have := order_self (read_lo (Nat.le_of_lt (rat_some h1 n0 n1).2))
  rw [this]; rfl
end Go.Proofs.Ytkbppaddghfgpaa
