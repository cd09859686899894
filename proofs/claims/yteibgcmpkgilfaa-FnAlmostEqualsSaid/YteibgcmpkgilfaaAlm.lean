/- AlmostEqualFloat64: what it answers, NaN or not; whatever bits a NaN has. -/
import Derived.Test.YteibgcmpkgilfaaUnit2
import Derived.Laws.BitsAllLaws
set_option linter.unusedVariables false
set_option linter.unusedSimpArgs false
namespace Go.Proofs.Yteibgcmpkgilfaa
open Go.RowKit Go.WideShapes

/-- A float but for a NaN's bits. -/
def cl (x : Nat) : Option Nat := if (Ieee.double.read x).isNaN then none else some x
theorem cl_none {x : Nat} (h : cl x = none) : (Ieee.double.read x).isNaN = true := by unfold cl at h; split at h <;> simp_all
theorem cl_some {x y : Nat} (h : cl x = some y) : x = y := by unfold cl at h; split at h <;> simp_all
def fop (op : BinOp) (x y : Option Nat) : Option Nat := match x, y with
  | some a, some b => (floatBits op .f64 a b).bind cl
  | _, _ => none

theorem nan_datum {x : Nat} (h : (Ieee.double.read x).isNaN = true) : ∃ s t, Ieee.double.read x = .nan s t := by
  cases hx : Ieee.double.read x with
  | number s m p => rw [hx] at h; cases h
  | infinity s => rw [hx] at h; cases h
  | nan s t => exact ⟨s, t, rfl⟩
theorem fop_nan (op : BinOp) (x y : Nat) (h : cl x = none ∨ cl y = none) : floatBits op .f64 x y = none := by
  rcases h with h | h
  · obtain ⟨s, t, hx⟩ := nan_datum (cl_none h)
    cases op <;> simp [floatBits, FloatKind.format, Ieee.Format.add, Ieee.Format.sub, Ieee.Format.mul, Ieee.Format.div, hx, Ieee.Datum.sum, Ieee.Datum.product, Ieee.Datum.quotient]
  · obtain ⟨s, t, hy⟩ := nan_datum (cl_none h)
    cases op <;> cases hx : Ieee.double.read x <;> simp [floatBits, FloatKind.format, Ieee.Format.add, Ieee.Format.sub, Ieee.Format.mul, Ieee.Format.div, hx, hy, Ieee.Datum.sum, Ieee.Datum.product, Ieee.Datum.quotient, Ieee.Datum.opposite]
theorem fop_eq (op : BinOp) (x y : Nat) : fop op (cl x) (cl y) = (floatBits op .f64 x y).bind cl := by
  cases hx : cl x with
  | none => rw [fop_nan op x y (.inl hx)]; rfl
  | some a =>
    cases hy : cl y with
    | none => rw [fop_nan op x y (.inr hy)]; rfl
    | some b => rw [cl_some hx, cl_some hy]; rfl

theorem nan_form (x y t : Nat) : (Question.nanBits .f64 x y).cut t = t % 2 * 9223372036854775808 + 9218868437227405312 + 1 + t / 2 % 4503599627370495 := by
  show t % 2 * 2 ^ 63 + 0x7ff0000000000000 + 1 + t / 2 % (2 ^ 52 - 1) = _
  rw [show (2:Nat) ^ 63 = 9223372036854775808 by decide, show (2:Nat) ^ 52 - 1 = 4503599627370495 by decide]
theorem nan_cut_lt (x y t : Nat) : (Question.nanBits .f64 x y).cut t < 18446744073709551616 := by
  rw [nan_form]
  have h1 : (t / 2) % 4503599627370495 < 4503599627370495 := Nat.mod_lt _ (by omega)
  generalize (t / 2) % 4503599627370495 = k at *
  have h2 : t % 2 < 2 := Nat.mod_lt _ (by omega)
  generalize t % 2 = q at *
  rcases (by omega : q = 0 ∨ q = 1) with rfl | rfl <;> omega
theorem nan_read {w : Nat} (h0 : 9218868437227405313 ≤ w % 9223372036854775808) : (Ieee.double.read w).isNaN = true := by
  unfold Ieee.Format.read
  simp only [binade_eq, inf_eq, sw_eq, lp_eq]
  generalize w % 9223372036854775808 = k at *
  have c1 : ¬ k < 4503599627370496 := by omega
  have c2 : ¬ k < 9218868437227405312 := by omega
  have c3 : ¬ k = 9218868437227405312 := by omega
  simp only [c1, c2, c3, if_false]
  rfl
theorem nan_cut (x y t : Nat) : cl ((Question.nanBits .f64 x y).cut t) = none := by
  rw [nan_form]
  have h1 : (t / 2) % 4503599627370495 < 4503599627370495 := Nat.mod_lt _ (by omega)
  generalize (t / 2) % 4503599627370495 = k at *
  have h2 : t % 2 < 2 := Nat.mod_lt _ (by omega)
  generalize t % 2 = q at *
  have e : (q * 9223372036854775808 + 9218868437227405312 + 1 + k) % 9223372036854775808 = 9218868437227405312 + 1 + k := by
    have e2 : q * 9223372036854775808 + 9218868437227405312 + 1 + k = 9223372036854775808 * q + (9218868437227405312 + 1 + k) := by omega
    rw [e2, Nat.mul_add_mod, Nat.mod_eq_of_lt (by omega : 9218868437227405312 + 1 + k < 9223372036854775808)]
  unfold cl
  rw [nan_read (by rw [e]; omega)]
  rfl

theorem run_fop (op : BinOp) (hop : op = .add ∨ op = .sub ∨ op = .mul ∨ op = .quo) (t : TypeId) (x y : Nat) (w : World) (n : Nat) :
    ∃ r m, (binOp op t (.float .f64 x) (.float .f64 y)).run Try.prog (w.drewN n) = .ok (.float .f64 r) (w.drewN m) ∧ cl r = fop op (cl x) (cl y) ∧ r < 18446744073709551616 := by
  rw [fop_eq]
  cases h : floatBits op .f64 x y with
  | some r => exact ⟨r, n, run_float_arith _ op t .f64 x y r h, rfl, by simpa [Lit.wf] using floatBits_wf h⟩
  | none =>
    obtain ⟨r, hr, hc⟩ : ∃ r, (binOp op t (.float .f64 x) (.float .f64 y)).run Try.prog (w.drewN n) = .ok (.float .f64 r) (w.drewN n).drew ∧ cl r = none ∧ r < 18446744073709551616 := by
      refine ⟨(Question.nanBits .f64 x y).cut ((w.drewN n).tape (w.drewN n).drawn (.nanBits .f64 x y)), ?_, nan_cut _ _ _, nan_cut_lt _ _ _⟩
      unfold floatBits at h
      rcases hop with rfl | rfl | rfl | rfl <;> simp only at h <;> simp [binOp, Op.floatArith, h, Question.forced, World.drew]
    exact ⟨r, n + 1, by rw [hr]; simp, hc⟩

theorem absB_eq (x : Nat) (hx : x < 18446744073709551616) : bits .andNot .u64 (x : Int) 9223372036854775808 = ((x % 9223372036854775808 : Nat) : Int) := by
  have h := u64_andNot_nat x 9223372036854775808 hx (by omega)
  have e : x &&& (18446744073709551615 - 9223372036854775808) = x % 9223372036854775808 := Nat.and_two_pow_sub_one_eq_mod x 63
  rw [e] at h
  exact h
def absO (o : Option Nat) : Option Nat := o.bind fun x => cl (x % 9223372036854775808)
theorem isNaN_abs (x : Nat) : (Ieee.double.read (x % 9223372036854775808)).isNaN = (Ieee.double.read x).isNaN := by
  unfold Ieee.Format.read
  simp only [binade_eq, inf_eq, sw_eq, lp_eq, Nat.mod_mod]
  split
  · rfl
  · split
    · rfl
    · split <;> rfl
theorem abs_cl (x : Nat) : cl (x % 9223372036854775808) = absO (cl x) := by
  cases h : cl x with
  | none =>
    have := cl_none h
    rw [← isNaN_abs] at this
    unfold cl; rw [this]; rfl
  | some y => rw [cl_some h]; rfl

def ltO (x y : Option Nat) : Bool := match x, y with
  | some a, some b => Ieee.double.order a b == some .lt
  | _, _ => false
theorem lt_cl (x y : Nat) : (Ieee.double.order x y == some .lt) = ltO (cl x) (cl y) := by
  cases hx : cl x with
  | none =>
    obtain ⟨s, t, h⟩ := nan_datum (cl_none hx)
    simp [Ieee.Format.order, h, Ieee.Datum.order, ltO]
  | some a =>
    cases hy : cl y with
    | none =>
      obtain ⟨s, t, h⟩ := nan_datum (cl_none hy)
      cases hx : Ieee.double.read x <;> simp [Ieee.Format.order, hx, h, Ieee.Datum.order, ltO]
    | some b => rw [cl_some hx, cl_some hy]; rfl

/-- math.Min's assembly, as the model has it, at a number that is no NaN. -/
def minP (x y : Nat) : Nat :=
  if Ieee.double.read x == .infinity true || Ieee.double.read y == .infinity true then FloatKind.f64.encode (.infinity true)
  else if (Ieee.double.read x).isNaN || (Ieee.double.read y).isNaN then 0x7FF8000000000001
  else if (Ieee.double.read x).isZero && (Ieee.double.read y).isZero then (if (Ieee.double.read x).neg == true then x else y)
  else if (Ieee.double.read x).order (Ieee.double.read y) == some .lt then x else y
def maxF : Nat := 9218868437227405311
def minO (o : Option Nat) : Option Nat := o.bind fun x => cl (minP x 9218868437227405311)
theorem min_cl (x : Nat) : cl (minP x 9218868437227405311) = minO (cl x) := by
  cases h : cl x with
  | none =>
    obtain ⟨s, t, hx⟩ := nan_datum (cl_none h)
    have hM : Ieee.double.read 9218868437227405311 = .number false 9007199254740991 971 := by decide +kernel
    have e : minP x 9218868437227405311 = 0x7FF8000000000001 := by
      unfold minP
      rw [hx, hM]
      rfl
    rw [e]
    unfold cl
    rw [nan_read (by decide)]
    rfl
  | some y => rw [cl_some h]; rfl

def minNF : Nat := 4503599627370496
/-- What AlmostEqualFloat64 answers. -/
def almG (a b e : Nat) : Bool :=
  if Ieee.double.order a b == some .eq then true
  else if Ieee.double.order a 0 == some .eq || Ieee.double.order b 0 == some .eq || ltO (fop .add (absO (cl a)) (absO (cl b))) (cl 4503599627370496) then
    ltO (absO (fop .sub (cl a) (cl b))) (fop .mul (cl e) (cl 4503599627370496))
  else ltO (fop .quo (absO (fop .sub (cl a) (cl b))) (minO (fop .add (absO (cl a)) (absO (cl b))))) (cl e)

theorem run_fop0 (op : BinOp) (hop : op = .add ∨ op = .sub ∨ op = .mul ∨ op = .quo) (t : TypeId) (x y : Nat) (w : World) :
    ∃ r m, (binOp op t (.float .f64 x) (.float .f64 y)).run Try.prog w = .ok (.float .f64 r) (w.drewN m) ∧ cl r = fop op (cl x) (cl y) ∧ r < 18446744073709551616 :=
  run_fop op hop t x y w 0

theorem tobits_any (n : Nat) (w : World) : (callFunc 45 #[.float .f64 n]).run Try.prog w = .ok (.value (.int .u64 n)) w := by
  rw [run_callFunc_extern Try.func45 (by kernel_rfl) (by kernel_rfl) (by kernel_rfl) (e := Extern.MathFloatBits.float64bits) (by kernel_rfl)]
  rfl

theorem abs_any (x : Nat) (hx : x < 18446744073709551616) (w : World) :
    Calls Try.prog 37 #[.float .f64 x] w fun e w' => e = .returned (.float .f64 (x % 9223372036854775808)) ∧ w = w' := by
  have h1 := fun wx => tobits_any x wx
  have h2 := absB_eq x hx
  have h3 := fun wx => frombits_any ((x % 9223372036854775808 : Nat) : Int) wx
  rw [Int.toNat_natCast] at h3
  generalize x % 9223372036854775808 = y at *
  go_enter Try.func37, Try.ntmps37
  go_wp2
  go_ret
  exact ⟨rfl, rfl⟩
theorem minNormal_any (w : World) :
    Calls Try.prog 38 #[] w fun e w' => e = .returned (.float .f64 4503599627370496) ∧ w = w' := by
  have h3 := fun wx => frombits_any 4503599627370496 wx
  go_enter Try.func38, Try.ntmps38
  go_wp2
  go_ret
  exact ⟨rfl, rfl⟩
theorem archMin_any (x y : Nat) (w : World) : (callFunc 46 #[.float .f64 x, .float .f64 y]).run Try.prog w = .ok (.value (.float .f64 (minP x y))) w := by
  rw [run_callFunc_extern Try.func46 (by kernel_rfl) (by kernel_rfl) (by kernel_rfl) (e := Extern.MathDim.pick "math.archMin" true .lt) (by kernel_rfl)]
  rfl
theorem min_any (x : Nat) (w : World) :
    Calls Try.prog 39 #[.float .f64 x, .float .f64 9218868437227405311] w fun e w' => e = .returned (.float .f64 (minP x 9218868437227405311)) ∧ w = w' := by
  have h3 := fun wx => archMin_any x 9218868437227405311 wx
  generalize minP x 9218868437227405311 = y at *
  go_enter Try.func39, Try.ntmps39
  go_wp2
  go_ret
  exact ⟨rfl, rfl⟩
end Go.Proofs.Yteibgcmpkgilfaa
