/- The law FnDiffRatios. -/
import Derived.Test.YtkbppaddghfgpaaDif30
import Derived.Test.YtkbppaddghfgpaaDif19
set_option linter.unusedVariables false
set_option linter.unusedSimpArgs false
namespace Go.Proofs.Ytkbppaddghfgpaa
open Go.RowKit Go.Maps

theorem ratV_eq {m n : Nat} (h1 : m ≤ 4294967296) (h2 : n ≤ 4294967296) : (Ieee.double.order (ratV m n) (ratV m n) == some .eq) = true := by
  unfold ratV
  by_cases h0 : n = 0
  · rw [if_pos h0]; decide +kernel
  · rw [if_neg h0]; exact rat_eq (by omega) (by omega) (by omega)
theorem ratV_le {m1 m2 n : Nat} (h : m1 ≤ m2) (h1 : m2 ≤ 4294967296) (h2 : n ≤ 4294967296) : (Ieee.double.order (ratV m1 n) (ratV m2 n) == some .lt || Ieee.double.order (ratV m1 n) (ratV m2 n) == some .eq) = true := by
  unfold ratV
  by_cases h0 : n = 0
  · rw [if_pos h0, if_pos h0]; decide +kernel
  · rw [if_neg h0, if_neg h0]; exact rat_le h (by omega) (by omega) (by omega)

set_option maxHeartbeats 1600000 in
set_option maxRecDepth 100000 in
theorem specQuick {a b : List ByteArray} (v1 v2 : Value) (w : World) (hv1 : RdC Value.string w v1 a) (hv2 : RdC Value.string w v2 b) (hla : a.length ≤ 2147483647) (hlb : b.length ≤ 2147483647) :
    Calls Try.prog 26 #[v1, v2] w fun e w' => e = .returned (.float .f64 (ratV (comm a b) (a.length + b.length))) ∧ Below w.heap.size w w' := by
  have HC := Lib.hid (specCommon v1 v2 w hv1 hv2 hla hlb)
  have hcl := comm_le_left a b
  obtain ⟨ap, acap, ab, aoff, rfl, hac, hamx, hap, hacell⟩ := hv1
  obtain ⟨bp, bcap, bb, boff, rfl, hbc, hbmx, hbp, hbcell⟩ := hv2
  clear hacell hbcell hap hbp
  have HSR := Lib.hid (fun w => specRatio ap bp a.length acap b.length bcap (comm a b) hla hlb (by omega) w)
  generalize comm a b = C at *
  go_enter Try.func26, Try.ntmps26
  go_wp2_with (go_at_call 48; go_must (refine HC.out.mono ?_))
  rintro e w1 ⟨rfl, hb1⟩
  go_wp2_with (go_at_call 24; go_must (refine (HSR.out w1).mono ?_))
  rintro e w2 ⟨rfl, rfl⟩
  go_wp2_with fail
  go_ret
  exact ⟨rfl, hb1⟩

set_option maxHeartbeats 1600000 in
set_option maxRecDepth 100000 in
theorem implRatios {a b : List ByteArray} (ap bp : Option Addr) (ac bc : Nat) (w : World) (hv1 : RdC Value.string w (.slice ap a.length ac) a) (hv2 : RdC Value.string w (.slice bp b.length bc) b)
    (hla : a.length ≤ 2147483647) (hlb : b.length ≤ 2147483647) (hsa : ∀ s ∈ a, s.size ≤ maxLen) (hsb : ∀ s ∈ b, s.size ≤ maxLen) :
    Calls Try.prog 23 #[.slice ap a.length ac, .slice bp b.length bc] w fun e w' => e = .returned (.tuple #[.float .f64 (ratV (szs (gmb a b (b2jL b))) (a.length + b.length)), .float .f64 (ratV (comm a b) (a.length + b.length)), .float .f64 (ratV (min a.length b.length) (a.length + b.length))]) ∧ Below w.heap.size w w' := by
  have HSA := Lib.hid hsa
  have HSB := Lib.hid hsb
  have HV1 := Lib.hid hv1
  have HV2 := Lib.hid hv2
  clear hsa hsb hv1 hv2
  go_enter Try.func23, Try.ntmps23
  go_wp2_with (go_at_call 38; go_must (refine (newMatcherG _ _ a b w HV1.out HV2.out hlb HSB.out).mono ?_))
  rintro e w1 ⟨rfl, hC⟩
  have hb1 := hC.1
  obtain ⟨hm0, hL⟩ := hC.mem0 (HV1.out.below hb1) (HV2.out.below hb1)
  obtain ⟨_, jv, ju, pv, hm, _, _⟩ := hC
  have HM := Lib.hid hm0
  have HL := Lib.hid hL
  have HC1 := Lib.hid (mRatio ap bp ac bc jv (.map (some ju)) pv w1 HM.out HL.out hla hlb HSA.out HSB.out hm)
  clear hm0 hL hm
  go_wp2_with (go_at_call 45; go_must (refine HC1.out.mono ?_))
  rintro e w2 ⟨rfl, ⟨blv, hm2⟩, hb2⟩
  have hb12 := hb1.trans hb2
  have HC2 := Lib.hid (mQuick ap bp ac bc jv (.map (some ju)) blv pv (.slice none 0 0) w2 hm2 (fun w' h => HV1.out.below (hb12.trans h)) (fun w' h => HV2.out.below (hb12.trans h)) hla hlb HSA.out HSB.out)
  clear HC1 hm2 hb1 hb2
  go_wp2_with (go_at_call 46; go_must (refine HC2.out.mono ?_))
  rintro e w3 ⟨rfl, ⟨hc0, hc1⟩, hb3⟩
  have hb13 := hb12.trans hb3
  have HC3 := Lib.hid (realQuick ap bp w.heap.size a.length ac b.length bc hla hlb w3 hc0 hc1)
  clear HC2 hc0 hc1
  go_wp2_with (go_at_call 47; go_must (refine HC3.out.mono ?_))
  rintro e w4 ⟨rfl, hb4⟩
  go_wp2_with fail
  go_ret3
  exact ⟨rfl, hb13.trans (hb4.mono hb13.size)⟩

set_option maxHeartbeats 3200000 in
set_option maxRecDepth 100000 in
theorem ratiosLaw (v1 v2 : Value) (a b : List ByteArray) (w : World) (hv1 : RdC Value.string w v1 a) (hv2 : RdC Value.string w v2 b) (hsa : ∀ s ∈ a, s.size ≤ maxLen) (hsb : ∀ s ∈ b, s.size ≤ maxLen) :
    Calls Try.prog 7 #[v1, v2] w fun e w' => e = .returned (.bool true) ∧ Below w.heap.size w w' := by
  have HV1 := Lib.hid hv1
  have HV2 := Lib.hid hv2
  have HSA := Lib.hid hsa
  have HSB := Lib.hid hsb
  obtain ⟨x1, x3, _, _, rfl, hx⟩ := hv1
  obtain ⟨y1, y3, _, _, rfl, hy⟩ := hv2
  clear hx hy hsa hsb
  go_enter Try.func7, Try.ntmps7
  go_wp2_with (go_at_call 9; go_must (refine (fitsD _ a _ HV1.out HSA.out).mono ?_))
  rintro e w1 ⟨⟨b1, rfl, hf1⟩, rfl⟩
  cases b1 with
  | false =>
    clear hf1
    go_wp2_with fail
    go_ret
    exact ⟨rfl, Below.refl _ _⟩
  | true =>
    have hla := (hf1 rfl).1
    clear hf1
    go_wp2_with (go_at_call 9; go_must (refine (fitsD _ b _ HV2.out HSB.out).mono ?_))
    rintro e w1 ⟨⟨b2, rfl, hf2⟩, rfl⟩
    cases b2 with
    | false =>
      clear hf2
      go_wp2_with fail
      go_ret
      exact ⟨rfl, Below.refl _ _⟩
    | true =>
      have hlb := (hf2 rfl).1
      clear hf2
      have HL : Hid (∀ v j, j ∈ b2jL b v → b[j]? = some v) := Lib.hid (fun v j h => b2j_mem b h)
      have HC1 := Lib.hid (implRatios x1 y1 x3 y3 w HV1.out HV2.out hla hlb HSA.out HSB.out)
      have hs1 := matched_le (a := a) HL.out
      have hs2 := comm_le_left a b
      have hs3 := comm_le_right a b
      obtain ⟨hbd, hml⟩ := gmb_bound (a := a) HL.out
      have HBD : Hid (∀ t ∈ gmb a b (b2jL b), t.1 + t.2.2 ≤ 2147483647) := Lib.hid (fun t ht => by have := (hbd t ht).1; omega)
      have HB2 : Hid (∀ w, RdC Value.string w (.slice x1 a.length x3) a → RdC Value.string w (.slice y1 b.length y3) b → Calls Try.prog 19 #[.slice x1 a.length x3, .slice y1 b.length y3] w fun e w' => SaidGot ((gmb a b (b2jL b)).map blockEd) w' e ∧ Below w.heap.size w w') := Lib.hid (fun w h1 h2 => implBlocksG _ _ a b w h1 h2 hla hlb HSA.out HSB.out)
      have HSR := Lib.hid (fun w => specRatio x1 y1 a.length x3 b.length y3 (szs (gmb a b (b2jL b))) hla hlb (by omega) w)
      have HRR := Lib.hid (fun w => realRatio x1 y1 a.length x3 b.length y3 hla hlb w)
      have HQR := Lib.hid (fun w h1 h2 => specQuick (a := a) (b := b) (.slice x1 a.length x3) (.slice y1 b.length y3) w h1 h2 hla hlb)
      have E1 := ratV_eq (m := szs (gmb a b (b2jL b))) (n := a.length + b.length) (by omega) (by omega)
      have E2 := ratV_eq (m := comm a b) (n := a.length + b.length) (by omega) (by omega)
      have E3 := ratV_eq (m := min a.length b.length) (n := a.length + b.length) (by omega) (by omega)
      have L1 := ratV_le (m1 := szs (gmb a b (b2jL b))) (m2 := comm a b) (n := a.length + b.length) (by omega) (by omega) (by omega)
      have L2 := ratV_le (m1 := comm a b) (m2 := min a.length b.length) (n := a.length + b.length) (by omega) (by omega) (by omega)
      have hsz : szs (gmb a b (b2jL b)) ≤ 2147483647 := by omega
      clear hbd
      generalize gmb a b (b2jL b) = ms at *
      generalize ratV (szs ms) (a.length + b.length) = r1 at *
      generalize ratV (comm a b) (a.length + b.length) = r2 at *
      generalize ratV (min a.length b.length) (a.length + b.length) = r3 at *
      have E1' : (FloatKind.f64.format.order r1 r1 == some .eq) = true := E1
      have E2' : (FloatKind.f64.format.order r2 r2 == some .eq) = true := E2
      have E3' : (FloatKind.f64.format.order r3 r3 == some .eq) = true := E3
      have L1' : (FloatKind.f64.format.order r1 r2 == some .lt || FloatKind.f64.format.order r1 r2 == some .eq) = true := L1
      have L2' : (FloatKind.f64.format.order r2 r3 == some .lt || FloatKind.f64.format.order r2 r3 == some .eq) = true := L2
      go_wp2_with (go_at_call 23; go_must (refine HC1.out.mono ?_))
      rintro e w1 ⟨rfl, hb1⟩
      have HC2 := Lib.hid (HB2.out w1 (HV1.out.below hb1) (HV2.out.below hb1))
      clear HC1 HB2
      go_wp2_with (go_at_call 19; go_must (refine HC2.out.mono ?_))
      rintro e w2 ⟨⟨gv, rfl, hgr⟩, hb2⟩
      have HC3 := Lib.hid (diffMatched gv ms 0 w2 hgr hsz HBD.out)
      have hb12 := hb1.trans (hb2.mono hb1.size)
      clear HC2 hgr
      go_wp2_with (go_at_call 25; go_must (refine HC3.out.mono ?_))
      rintro e w3 ⟨rfl, hb3⟩
      have hb13 := hb12.trans (hb3.mono hb12.size)
      go_wp2_with (go_at_call 24; go_must (refine (HSR.out w3).mono ?_))
      rintro e w4 ⟨rfl, rfl⟩
      have HC5 := Lib.hid (HQR.out w4 (HV1.out.below hb13) (HV2.out.below hb13))
      clear HC3 HSR HQR
      go_wp2_with (go_at_call 26; go_must (refine HC5.out.mono ?_))
      rintro e w5 ⟨rfl, hb5⟩
      have hb15 := hb13.trans (hb5.mono hb13.size)
      go_wp2_with (go_at_call 27; go_must (refine (HRR.out w5).mono ?_))
      rintro e w6 ⟨rfl, rfl⟩
      go_wp2_with (go_at_call 18; go_must (refine (diffAwake _).mono ?_))
      rintro e w7 ⟨rfl, hb7⟩
      go_wp2_with fail
      go_ret
      exact ⟨rfl, hb15.trans (hb7.mono hb15.size)⟩
theorem fnDiffRatios.walk0 (w : World) (v1 : Value) (a : List ByteArray) (h1 : RdC Value.string w v1 a ∧ ∀ x ∈ a, x.size ≤ maxLen) (v2 : Value) (b : List ByteArray) (h2 : RdC Value.string w v2 b ∧ ∀ x ∈ b, x.size ≤ maxLen) :
    Calls Try.prog 7 #[v1, v2] w fun e w' => e = .returned (.bool true) ∧ Below w.heap.size w w' := ratiosLaw v1 v2 a b w h1.1 h2.1 h1.2 h2.2
end Go.Proofs.Ytkbppaddghfgpaa
