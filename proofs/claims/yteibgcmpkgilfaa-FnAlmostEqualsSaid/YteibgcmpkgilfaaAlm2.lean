/- AlmostEqualFloat64, AlmostEqual: the walk. -/
import Derived.Test.YteibgcmpkgilfaaAlm
set_option linter.unusedVariables false
set_option linter.unusedSimpArgs false
namespace Go.Proofs.Yteibgcmpkgilfaa
open Go.RowKit Go.WideShapes

theorem almG_1 {a b e : Nat} (h : (Ieee.double.order a b == some .eq) = true) : almG a b e = true := by unfold almG; rw [if_pos h]
theorem almG_2 {a b e : Nat} (h : (Ieee.double.order a b == some .eq) = false) (h2 : (Ieee.double.order a 0 == some .eq || Ieee.double.order b 0 == some .eq || ltO (fop .add (absO (cl a)) (absO (cl b))) (cl 4503599627370496)) = true) :
    almG a b e = ltO (absO (fop .sub (cl a) (cl b))) (fop .mul (cl e) (cl 4503599627370496)) := by
  unfold almG; rw [if_neg (by rw [h]; decide), if_pos h2]
theorem almG_3 {a b e : Nat} (h : (Ieee.double.order a b == some .eq) = false) (h2 : (Ieee.double.order a 0 == some .eq || Ieee.double.order b 0 == some .eq || ltO (fop .add (absO (cl a)) (absO (cl b))) (cl 4503599627370496)) = false) :
    almG a b e = ltO (fop .quo (absO (fop .sub (cl a) (cl b))) (minO (fop .add (absO (cl a)) (absO (cl b))))) (cl e) := by
  unfold almG; rw [if_neg (by rw [h]; decide), if_neg (by rw [h2]; decide)]

set_option maxHeartbeats 1600000 in
set_option maxRecDepth 100000 in
theorem alm_any (a b e : Nat) (ha : a < 18446744073709551616) (hb : b < 18446744073709551616) (w : World) :
    Calls Try.prog 29 #[.float .f64 a, .float .f64 b, .float .f64 e] w fun en w' => en = .returned (.bool (almG a b e)) ∧ ∃ n, w' = w.drewN n := by
  have HA := Lib.hid ha
  have HB := Lib.hid hb
  clear ha hb
  cases h1 : (FloatKind.f64.format.order a b == some .eq) with
  | true =>
    have H : Hid (almG a b e = true) := almG_1 h1
    go_enter Try.func29, Try.ntmps29
    go_wp2_with fail
    go_ret
    exact ⟨ret_bool H.out.symm, 0, rfl⟩
  | false =>
    have h1' : (Ieee.double.order a b == some .eq) = false := h1
    obtain ⟨d, m1, hr1, hc1, hd1⟩ := run_fop0 .sub (.inr (.inl rfl)) 25 a b w
    have HC1 := Lib.hid hc1
    have HD1 := Lib.hid hd1
    have H1 := Lib.hid h1'
    clear hc1 hd1 h1'
    go_enter Try.func29, Try.ntmps29
    go_wp2_with fail
    refine (abs_any a HA.out _).mono ?_
    rintro en w1 ⟨rfl, rfl⟩
    go_wp2_with fail
    refine (abs_any b HB.out _).mono ?_
    rintro en w1 ⟨rfl, rfl⟩
    go_wp2_with fail
    refine (abs_any d HD1.out _).mono ?_
    rintro en w1 ⟨rfl, rfl⟩
    have HA1 := Lib.hid (abs_cl a)
    have HB1 := Lib.hid (abs_cl b)
    have HD2 := Lib.hid (abs_cl d)
    generalize a % 9223372036854775808 = A at *
    generalize b % 9223372036854775808 = B at *
    generalize d % 9223372036854775808 = D at *
    have HS : Hid (∀ s, cl s = fop .add (cl A) (cl B) → cl s = fop .add (absO (cl a)) (absO (cl b))) := by
      intro s hs; rw [hs, HA1.out, HB1.out]
    cases h2 : (FloatKind.f64.format.order a 0 == some .eq) with
    | true =>
      have H2 : Hid ((Ieee.double.order a 0 == some .eq) = true) := h2
      obtain ⟨p, m9, hr9, hc9, _⟩ := run_fop .mul (.inr (.inr (.inl rfl))) 25 e 4503599627370496 w m1
      have HC9 := Lib.hid hc9
      clear hc9
      go_wp2_with fail
      refine (minNormal_any _).mono ?_
      rintro en w1 ⟨rfl, rfl⟩
      go_wp2_with fail
      go_ret
      refine ⟨ret_bool ?_, m9, rfl⟩
      rw [almG_2 H1.out (by rw [H2.out]; rfl)]
      refine (lt_cl D p).trans ?_
      rw [HD2.out, HC1.out, HC9.out]
    | false =>
      have H2 : Hid ((Ieee.double.order a 0 == some .eq) = false) := h2
      cases h3 : (FloatKind.f64.format.order b 0 == some .eq) with
      | true =>
        have H3 : Hid ((Ieee.double.order b 0 == some .eq) = true) := h3
        obtain ⟨p, m9, hr9, hc9, _⟩ := run_fop .mul (.inr (.inr (.inl rfl))) 25 e 4503599627370496 w m1
        have HC9 := Lib.hid hc9
        clear hc9
        go_wp2_with fail
        refine (minNormal_any _).mono ?_
        rintro en w1 ⟨rfl, rfl⟩
        go_wp2_with fail
        go_ret
        refine ⟨ret_bool ?_, m9, rfl⟩
        rw [almG_2 H1.out (by rw [H2.out, H3.out]; rfl)]
        refine (lt_cl D p).trans ?_
        rw [HD2.out, HC1.out, HC9.out]
      | false =>
        have H3 : Hid ((Ieee.double.order b 0 == some .eq) = false) := h3
        obtain ⟨s, m2, hr2, hc2, _⟩ := run_fop .add (.inl rfl) 25 A B w m1
        have HC2 := Lib.hid (HS.out s hc2)
        clear hc2
        cases h4 : (FloatKind.f64.format.order s 4503599627370496 == some .lt) with
        | true =>
          have H4 : Hid (ltO (fop .add (absO (cl a)) (absO (cl b))) (cl 4503599627370496) = true) := by rw [← HC2.out, ← lt_cl]; exact h4
          go_wp2_with fail
          refine (minNormal_any _).mono ?_
          rintro en w1 ⟨rfl, rfl⟩
          obtain ⟨p, m9, hr9, hc9, _⟩ := run_fop .mul (.inr (.inr (.inl rfl))) 25 e 4503599627370496 w m2
          have HC9 := Lib.hid hc9
          clear hc9
          go_wp2_with fail
          refine (minNormal_any _).mono ?_
          rintro en w1 ⟨rfl, rfl⟩
          go_wp2_with fail
          go_ret
          refine ⟨ret_bool ?_, m9, rfl⟩
          rw [almG_2 H1.out (by rw [H2.out, H3.out, H4.out]; rfl)]
          refine (lt_cl D p).trans ?_
          rw [HD2.out, HC1.out, HC9.out]
        | false =>
          have H4 : Hid (ltO (fop .add (absO (cl a)) (absO (cl b))) (cl 4503599627370496) = false) := by rw [← HC2.out, ← lt_cl]; exact h4
          obtain ⟨s2, m3, hr3, hc3, _⟩ := run_fop .add (.inl rfl) 25 A B w m2
          have HC3 := Lib.hid (HS.out s2 hc3)
          clear hc3
          go_wp2_with fail
          refine (minNormal_any _).mono ?_
          rintro en w1 ⟨rfl, rfl⟩
          go_wp2_with fail
          refine (min_any s2 _).mono ?_
          rintro en w1 ⟨rfl, rfl⟩
          have HM := Lib.hid (min_cl s2)
          generalize minP s2 9218868437227405311 = mm at *
          obtain ⟨q, m4, hr4, hc4, _⟩ := run_fop .quo (.inr (.inr (.inr rfl))) 25 D mm w m3
          have HC4 := Lib.hid hc4
          clear hc4
          go_wp2_with fail
          go_ret
          refine ⟨ret_bool ?_, m4, rfl⟩
          rw [almG_3 H1.out (by rw [H2.out, H3.out, H4.out]; rfl)]
          refine (lt_cl q e).trans ?_
          rw [HC4.out, HD2.out, HC1.out, HM.out, HC3.out]
end Go.Proofs.Yteibgcmpkgilfaa
