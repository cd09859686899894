/- What a quality is: acceptQuality (of the reference) and expectQuality (of the program). -/
import Derived.Test.YtkbppaddghfgpaaAcc3
set_option linter.unusedVariables false
set_option linter.unusedSimpArgs false
namespace Go.Proofs.Ytkbppaddghfgpaa
open Go.RowKit

def fq (wh r u : Int) : Option Nat := (floatBits .quo .f64 (floatOfInt .f64 r) (floatOfInt .f64 u)).bind (floatBits .add .f64 (floatOfInt .f64 wh))
def okQ (wh r u : Int) : Bool := match fq wh r u with
  | none => false
  | some q => !(Ieee.double.order q 0 == some .lt)
def LO (x : Nat) : Prop := x ≤ 9218868437227405312
theorem LO.read {x : Nat} (h : LO x) : (∃ m p, Ieee.double.read x = .number false m p) ∨ Ieee.double.read x = .infinity false := by
  unfold LO at h
  unfold Ieee.Format.read
  simp only [binade_eq, inf_eq, sw_eq, lp_eq]
  have e : x % 9223372036854775808 = x := Nat.mod_eq_of_lt (by omega)
  have e2 : (x / 9223372036854775808 % 2 == 1) = false := by rw [Nat.div_eq_of_lt (by omega)]; rfl
  rw [e, e2]
  split
  · exact .inl ⟨_, _, rfl⟩
  · split
    · exact .inl ⟨_, _, rfl⟩
    · rw [if_pos (by omega)]; exact .inr rfl
theorem nearest_lo (m : Nat) (p : Int) : LO (Ieee.double.nearest false m p) := by
  have key : ∀ r, LO r → LO (Ieee.double.word false r) := by
    intro r hr
    unfold Ieee.Format.word
    simp only [Bool.false_eq_true, if_false]
    exact hr
  have h0 : LO 0 := Nat.zero_le _
  have hm : ∀ a, LO (min a 9218868437227405312) := fun a => Nat.min_le_right _ _
  unfold Ieee.Format.nearest
  rw [inf_eq]
  split
  · exact key 0 h0
  · exact key _ (hm _)
theorem fi_lo {n : Int} (h : 0 ≤ n) : LO (floatOfInt .f64 n) := by
  have e : floatOfInt .f64 n = Ieee.double.nearest false n.natAbs 0 := by
    unfold floatOfInt FloatKind.nearest FloatKind.encode
    simp only [Ieee.Format.write, FloatKind.format]
    rw [decide_eq_false (by omega)]
  rw [e]; exact nearest_lo _ _
theorem quo_num (D m : Nat) (i : Int) (n : Nat) (j : Int) (hn : n ≠ 0) : ∃ M P, Ieee.Datum.quotient D (.number false m i) (.number false n j) = some (.number false M P) := by
  refine ⟨2 * ((m <<< (D + n.log2 - m.log2)) / n) + ((m <<< (D + n.log2 - m.log2)) % n != 0).toNat, i - j - ((D + n.log2 - m.log2 : Nat) : Int) - 1, ?_⟩
  simp only [Ieee.Datum.quotient]
  rw [if_neg hn]
  rfl
theorem lo_quo {x y : Nat} (hx : LO x) (hy : FP y) : ∃ d, floatBits .quo .f64 x y = some d ∧ LO d := by
  obtain ⟨n, j, hn, hy⟩ := hy
  have hn0 : n ≠ 0 := by omega
  rcases hx.read with ⟨m, i, hx⟩ | hx
  · obtain ⟨M, P, hq⟩ := quo_num (Ieee.double.fractionBits + 2) m i n j hn0
    refine ⟨Ieee.double.nearest false M P, ?_, nearest_lo M P⟩
    simp only [floatBits, FloatKind.format, Ieee.Format.div, hx, hy, hq, Option.map_some, Ieee.Format.write]
  · refine ⟨9218868437227405312, ?_, Nat.le_refl _⟩
    simp only [floatBits, FloatKind.format, Ieee.Format.div, hx, hy, Ieee.Datum.quotient, Option.map_some, Ieee.Format.write, Bool.xor_false]
    rfl
theorem lo_add {x y : Nat} (hx : LO x) (hy : LO y) : ∃ d, floatBits .add .f64 x y = some d ∧ LO d := by
  have hi : LO 9218868437227405312 := Nat.le_refl _
  have hiw : Ieee.double.write (.infinity false) = 9218868437227405312 := rfl
  rcases hx.read with ⟨m, i, hx⟩ | hx <;> rcases hy.read with ⟨n, j, hy⟩ | hy
  · refine ⟨Ieee.double.nearest false (Ieee.signed false m (i - min i j).toNat + Ieee.signed false n (j - min i j).toNat).natAbs (min i j), ?_, nearest_lo _ _⟩
    have hs : decide (Ieee.signed false m (i - min i j).toNat + Ieee.signed false n (j - min i j).toNat < 0) = false := by
      refine decide_eq_false ?_
      simp only [Ieee.signed, Bool.false_eq_true, if_false]
      exact Int.not_lt.2 (Int.add_nonneg (Int.natCast_nonneg _) (Int.natCast_nonneg _))
    simp only [floatBits, FloatKind.format, Ieee.Format.add, hx, hy, Ieee.Datum.sum, Option.map_some, Ieee.Format.write, hs, Bool.and_false, ite_self]
  all_goals
    refine ⟨9218868437227405312, ?_, hi⟩
    simp only [floatBits, FloatKind.format, Ieee.Format.add, hx, hy, Ieee.Datum.sum, Option.map_some, hiw, if_true]
theorem lo_pos {x : Nat} (hx : LO x) : (Ieee.double.order x 0 == some .lt) = false := by
  have h0 : Ieee.double.read 0 = .number false 0 (-1074) := by decide
  unfold Ieee.Format.order
  rcases hx.read with ⟨m, i, hx⟩ | hx
  · rw [hx, h0]
    simp only [Ieee.Datum.order, Ieee.signed, Bool.false_eq_true, if_false, Nat.zero_shiftLeft]
    cases hc : compare ((m <<< (i - min i (-1074)).toNat : Nat) : Int) ((0 : Nat) : Int) with
    | lt => exact absurd (Int.compare_eq_lt.1 hc) (Int.not_lt.2 (Int.natCast_nonneg _))
    | eq => rfl
    | gt => rfl
  · rw [hx, h0]; rfl
theorem ok_of {wh r u : Int} (h0 : 0 ≤ wh) (h1 : 0 ≤ r) (h2 : 1 ≤ u) (h3 : u ≤ 1000) : okQ wh r u = true := by
  obtain ⟨d, hd, hl⟩ := lo_quo (fi_lo h1) (int_fp h2 (by omega))
  obtain ⟨q, hq, hl2⟩ := lo_add (fi_lo h0) hl
  have e : fq wh r u = some q := by unfold fq; rw [hd]; exact hq
  unfold okQ
  rw [e]
  show (!(Ieee.double.order q 0 == some .lt)) = true
  rw [lo_pos hl2]; rfl
theorem fi0 : floatOfInt .f64 0 = 0 := by decide +kernel
theorem fi1 : floatOfInt .f64 1 = 4607182418800017408 := by decide +kernel
def qOf (l : List UInt8) : Nat := (fq (dg (l.headD 48)) (qF (l.drop 2)).1 (qF (l.drop 2)).2).getD 0
theorem Dig.few {l : List UInt8} (h : Dig l) : (l.drop 2).length ≤ 3 := by rw [List.length_drop]; have := h.len; omega
theorem okQ_out {wh r u : Int} (h : okQ wh r u = true) : ∃ d, floatBits .quo .f64 (floatOfInt .f64 r) (floatOfInt .f64 u) = some d ∧ floatBits .add .f64 (floatOfInt .f64 wh) d = some ((fq wh r u).getD 0) ∧ (Ieee.double.order ((fq wh r u).getD 0) 0 == some .lt) = false := by
  unfold okQ at h
  have e : fq wh r u = (floatBits .quo .f64 (floatOfInt .f64 r) (floatOfInt .f64 u)).bind (floatBits .add .f64 (floatOfInt .f64 wh)) := rfl
  cases hq : floatBits .quo .f64 (floatOfInt .f64 r) (floatOfInt .f64 u) with
  | none => rw [e, hq] at h; cases h
  | some d =>
    rw [hq] at e
    have e2 : fq wh r u = floatBits .add .f64 (floatOfInt .f64 wh) d := e
    cases ha : floatBits .add .f64 (floatOfInt .f64 wh) d with
    | none => rw [e2, ha] at h; cases h
    | some q =>
      rw [e2, ha] at h
      refine ⟨d, rfl, ?_, ?_⟩
      · rw [e2, ha]; rfl
      · rw [e2, ha]; simpa using h
/-- The quality of valid digits, step by step. -/
structure QIs (l : List UInt8) (a : UInt8) (d : Nat) : Prop where
  head : l[0]? = some a
  dig : a.toNat = 48 ∨ a.toNat = 49
  quo : floatBits .quo .f64 (floatOfInt .f64 (qF (l.drop 2)).1) (floatOfInt .f64 (qF (l.drop 2)).2) = some d
  add : floatBits .add .f64 (floatOfInt .f64 (dg a)) d = some (qOf l)
  pos : (Ieee.double.order (qOf l) 0 == some .lt) = false
theorem Dig.q {l : List UInt8} (h : Dig l) : ∃ a d, QIs l a d := by
  have hf := h.few
  have hb := qF_bd _ hf h.digs
  obtain ⟨a, ha, ha2⟩ : ∃ a, l[0]? = some a ∧ (a = 48 ∨ a = 49) := by
    rcases h.head with h | h
    · exact ⟨_, h, .inl rfl⟩
    · exact ⟨_, h, .inr rfl⟩
  have hd : l.headD 48 = a := by
    cases l with
    | nil => cases ha
    | cons x r => cases ha; rfl
  have hok : okQ (dg a) (qF (l.drop 2)).1 (qF (l.drop 2)).2 = true := ok_of (by unfold dg; rcases ha2 with rfl | rfl <;> decide) hb.1 hb.2.2.1 hb.2.2.2
  obtain ⟨d, h1, h2, h3⟩ := okQ_out hok
  refine ⟨a, d, ha, ?_, h1, ?_, ?_⟩
  · rcases ha2 with rfl | rfl
    · exact .inl rfl
    · exact .inr rfl
  · rw [h2]; unfold qOf; rw [hd]
  · unfold qOf; rw [hd]; exact h3

theorem ret_float {a b : Nat} (h : a = b) : Ending.returned (.float .f64 a) = .returned (.float .f64 b) := by rw [h]
theorem thou_div {n g : Int} (h0 : 0 ≤ g) (h1 : 1000 * g ≤ n) (h2 : n ≤ 1000 * g + 999) : n / 1000 = g := by omega

set_option maxHeartbeats 1600000 in
set_option maxRecDepth 100000 in
theorem accQ (s : ByteArray) (w : World) (hm : s.size ≤ 9223372036854775806) (hd : Dig s.data.toList) :
    Calls Try.prog 30 #[.string s] w fun e w' => e = .returned (.float .f64 (qOf s.data.toList)) ∧ w = w' := by
  obtain ⟨a, d, hq⟩ := hd.q
  have HQ := Lib.hid hq
  have hf := hd.few
  have h5 : s.size ≤ 5 := by have := hd.len; rw [data_len] at this; omega
  have p0 : 0 < s.size := by have := hd.len; rw [data_len] at this; omega
  have HS := Lib.hid hd
  have hth := thF_unit a _ hf hd.digs
  have hdg : dg a = 0 ∨ dg a = 1 := by unfold dg; rcases hq.dig with h | h <;> rw [h] <;> decide
  clear hq hd
  go_enter Try.func30, Try.ntmps30
  go_wp2_with fail
  refine (thous s _ hm).mono ?_
  rintro e w1 ⟨⟨n, ok, rfl, h1, h2⟩, rfl⟩
  have hn := (h1 (h2 HS.out)).2 a HQ.out.head
  rw [← hn] at hth
  obtain ⟨ht0, ht1, ht2⟩ := hth
  have hdiv := thou_div (by omega) ht1 ht2
  have HDIV := Lib.hid hdiv
  have hn0 : 0 ≤ n ∧ n ≤ 2000 := by omega
  clear h1 h2 hn ht0 ht1 ht2 hdiv
  go_wp2_with fail
  go_loop [6, 7, 8] (fun uv rv iv => ∃ k : Nat, 2 ≤ k ∧ (k ≤ s.size ∨ k = 2) ∧ iv = .int .i64 k ∧ rv = .int .i64 (qF ((s.data.toList.take k).drop 2)).1 ∧ uv = .int .i64 (qF ((s.data.toList.take k).drop 2)).2) (fun _ _ iv => s.size - (intOf iv).toNat)
  case atStart =>
    have e : (s.data.toList.take 2).drop 2 = [] := List.drop_eq_nil_of_le (List.length_take_le _ _)
    exact ⟨2, by omega, .inr rfl, rfl, by rw [e]; rfl, by rw [e]; rfl⟩
  case round =>
    obtain ⟨k, hk2, hk, rfl, rfl, rfl⟩ := hrel
    by_cases hlt : k < s.size
    · have hl3 : ((s.data.toList.take k).drop 2).length ≤ 3 := by
        have := List.length_take_le k s.data.toList
        rw [List.length_drop]; omega
      have hsub : ∀ c ∈ (s.data.toList.take k).drop 2, isDg c := fun c hc => HS.out.digs c (by
        rw [List.drop_take] at hc
        exact List.mem_of_mem_take hc)
      have hsk : isDg s[k] := HS.out.digs s[k] (List.mem_of_getElem? (i := k - 2) (by rw [List.getElem?_drop, show 2 + (k - 2) = k by omega, data_get s k hlt]))
      have hb := qF_bd _ hl3 hsub
      have HN := Lib.hid (drop_take_succ s k hk2 hlt)
      have HE := Lib.hid (qF_snoc ((s.data.toList.take k).drop 2) s[k])
      unfold isDg at hsk
      clear hsub
      obtain ⟨r, hr⟩ : ∃ r, r = (qF ((s.data.toList.take k).drop 2)).1 := ⟨_, rfl⟩
      obtain ⟨u, hu⟩ : ∃ u, u = (qF ((s.data.toList.take k).drop 2)).2 := ⟨_, rfl⟩
      rw [← hr, ← hu] at hb
      rw [← hr, ← hu]
      have HR := Lib.hid hr
      have HU := Lib.hid hu
      clear hr hu
      go_wp2_with fail
      go_round
      case rel =>
        refine ⟨k + 1, by omega, .inl (by omega), by go_num, ?_, ?_⟩
        · rw [HN.out, HE.out]; unfold qStep; rw [← HR.out]; rfl
        · rw [HN.out, HE.out]; unfold qStep; rw [← HU.out]
      case measure => simp [intOf]; omega
    · have e : s.data.toList.take k = s.data.toList := List.take_of_length_le (by simp; omega)
      rw [e]
      clear e
      have hq1 := fun t wx => run_float_arith (P := Try.prog) wx .quo t .f64 _ _ _ HQ.out.quo
      have hq2 := fun t wx => run_float_arith (P := Try.prog) wx .add t .f64 (floatOfInt .f64 (n / 1000)) _ _ (by rw [HDIV.out]; exact HQ.out.add)
      go_wp2_with fail
      go_ret
      exact ⟨rfl, rfl⟩
end Go.Proofs.Ytkbppaddghfgpaa
