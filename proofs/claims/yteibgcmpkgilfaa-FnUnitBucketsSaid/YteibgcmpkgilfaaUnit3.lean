/- The law FnUnitBuckets. -/
import Derived.Test.YteibgcmpkgilfaaUnit2
set_option linter.unusedVariables false
set_option linter.unusedSimpArgs false
namespace Go.Proofs.Yteibgcmpkgilfaa
open Go.RowKit Go.WideShapes

set_option maxHeartbeats 1600000 in
set_option maxRecDepth 100000 in
theorem unitLaw (v : Value) (xs : List Int) (u : ByteArray) (w : World) (hv : RdI w v xs) :
    Calls Try.prog 5 #[v, .string u] w fun e w' => e = .returned (.bool true) ∧ Below w.heap.size w w' := by
  obtain ⟨a, c, hve⟩ := hv.shape
  have HV := Lib.hid hv
  subst hve
  clear hv
  by_cases hs : xs.length ≤ 2147483647
  · by_cases hu : u.size ≤ 2147483647
    · have hwl := whole_len xs
      go_enter Try.func5, Try.ntmps5
      go_wp2_with fail
      refine (whole_any _ xs _ HV.out).mono ?_
      rintro e w1 ⟨v1, rfl, hown1, hb1⟩
      obtain ⟨a1, c1, hv1⟩ := (RdC.of_owns hown1).shape
      subst hv1
      have HD := Lib.hid (whole_div xs)
      go_wp2_with fail
      go_loopw [6] (fun i wr => ∃ k : Nat, k ≤ (whole xs).length ∧ i = .int .i64 k ∧ wr.ownsRow w.heap.size 25 1 (.slice a1 (whole xs).length c1) (whole xs).length ((((whole xs).take k).map divB ++ (whole xs).drop k).map (Value.float .f64)) ∧ Below w.heap.size w wr) (fun i _ => (whole xs).length - (intOf i).toNat)
      case atStart => exact ⟨0, Nat.zero_le _, rfl, by simpa using hown1, hb1⟩
      case round =>
        obtain ⟨k, hk, rfl, hown, hb⟩ := hrel
        clear hown1 hb1
        by_cases hlt : k < (whole xs).length
        · obtain ⟨g, cp, hg, hgb, _⟩ := hown.form (by omega)
          cases hg
          have hc := hown.cellAt k (by omega)
          have hfr := hown.frozenAt k
          rw [List.getElem?_map, upto_get hlt, Option.map_some] at hc
          obtain ⟨r, hr, hdr, hfp⟩ := HD.out (whole xs)[k] (List.getElem_mem _)
          have HS := Lib.hid (map_upto hlt)
          rw [hdr] at HS
          obtain ⟨s1, s2⟩ := hown.stored k (.float .f64 r)
          rw [map_set', HS.out] at s1
          have hdiv := fun t wx => run_float_arith (P := Try.prog) wx .quo t .f64 (whole xs)[k] 4634204016564240384 r hr
          have S1 := Lib.hid s1
          have S2 := Lib.hid s2
          clear s1 s2 hown hr hdr
          generalize (whole xs)[k] = x at *
          go_wp2_with fail
          go_roundw
          case rel => exact ⟨k + 1, by omega, by go_num, S1.out, hb.grown S2.out hb.size (fun j hj => by cases hj; exact hgb)⟩
          case measure => simp [intOf]; omega
        · have hk2 : k = (whole xs).length := by omega
          have hown2 : wr.ownsRow w.heap.size 25 1 (.slice a1 (whole xs).length c1) (whole xs).length ((whole64 xs).map (Value.float .f64)) := by
            have e : ((whole xs).take k).map divB ++ (whole xs).drop k = whole64 xs := by
              rw [hk2, List.take_length, List.drop_length, List.append_nil]; rfl
            rw [← e]; exact hown
          clear hown hk2 HD
          have hD := RdC.of_owns hown2
          have HFP := Lib.hid (whole64_fp xs)
          have hl64 : (whole64 xs).length = (whole xs).length := by unfold whole64; simp
          have HL := Lib.hid hl64
          have hl64' : (whole64 xs).length ≤ 1000 := by omega
          have HRD := Lib.hid hD
          clear hD hl64
          go_wp2_with fail
          refine (unitBytes _ lit3 _ (lit3_rd wr) lit3_fp (by decide) (by decide)).mono ?_
          rintro e w2 ⟨v2, rfl, hr2, hb2⟩
          obtain ⟨a2, c2, hv2⟩ := hr2.shape
          rw [lit3_pick] at hv2
          subst hv2
          have hb12 := ((Below.refl wr.heap.size wr).alloc (Nat.le_refl _) (.cells #[.float .f64 4607182418800017408, .float .f64 4611686018427387904, .float .f64 4616189618054758400] 25)).trans (hb2.mono (size_alloc_le _ _))
          have hb02 := hb.trans (hb12.mono hb.size)
          have HR2 := Lib.hid (HRD.out.below hb12)
          clear hr2
          by_cases h2 : 2 ≤ (whole xs).length
          · obtain ⟨g1, cp1, hg1, _, _⟩ := hown2.form (by omega)
            cases hg1
            clear hown2 HRD
            go_wp2_with fail
            refine (bucketPick_any _ (whole64 xs) _ _ HR2.out HFP.out two_fp (by omega)).mono ?_
            rintro e w3 ⟨v3, rfl, hr3, hb3⟩
            have HR3 := Lib.hid (HR2.out.below hb3)
            have HB3 := Lib.hid hr3
            have hb03 := hb02.trans (hb3.mono hb02.size)
            clear hr3
            go_wp2_with fail
            refine (bucketPick_own _ (whole64 xs) _ _ HR3.out HFP.out ten_fp (by omega)).mono ?_
            rintro e w4 ⟨v4, rfl, hown4, hb4⟩
            obtain ⟨a4, c4, hv4⟩ := (RdC.of_owns hown4).shape
            subst hv4
            have hP : ∀ x ∈ pick 4621819117588971520 (whole64 xs), FP x := fun x h => HFP.out x (pick_mem _ _ x h)
            have hPl := pick_len 4621819117588971520 (whole64 xs)
            obtain ⟨P, hPe⟩ : ∃ P, P = pick 4621819117588971520 (whole64 xs) := ⟨_, rfl⟩
            rw [← hPe] at hP hPl hown4 ⊢
            have HPe := Lib.hid hPe
            clear hPe
            go_wp2_with fail
            go_loopw [9, 10] (fun sv i wr => ∃ (k : Nat) (Q : List Nat), k ≤ Q.length ∧ Q.length ≤ P.length ∧ i = .int .i64 k ∧ sv = .slice a4 Q.length c4 ∧ wr.ownsRow w3.heap.size 25 1 (.slice a4 Q.length c4) Q.length (Q.map (Value.float .f64)) ∧ Q.take k ++ cutOne (Q.drop k) = cutOne P ∧ (∀ x ∈ Q.drop k, FP x) ∧ Below w3.heap.size w3 wr) (fun _ i _ => P.length - (intOf i).toNat)
            case atStart => exact ⟨0, P, Nat.zero_le _, Nat.le_refl _, rfl, rfl, hown4, rfl, hP, hb4⟩
            case round =>
              obtain ⟨k, Q, hk, hQP, rfl, rfl, hown, hcut, hQ, hb⟩ := hrel
              have HCUT := Lib.hid hcut
              have HQ := Lib.hid hQ
              clear hcut hQ hown4 hb4 hP
              by_cases hlt : k < Q.length
              · obtain ⟨g, cp, hg, hgb, _⟩ := hown.form (by omega)
                cases hg
                have hc := hown.cellAt k (by omega)
                have hfr := hown.frozenAt k
                rw [List.getElem?_map, List.getElem?_eq_getElem hlt, Option.map_some] at hc
                have hfx := HQ.out Q[k] (by rw [List.drop_eq_getElem_cons hlt]; exact List.mem_cons_self)
                have hgt := gt_or_le hfx.nn one_fp.nn
                have HL1 := Lib.hid (fun h => cut_step_le hlt h)
                have HL2 := Lib.hid (fun h => cut_step_gt hlt h)
                have HDR := Lib.hid (List.drop_eq_getElem_cons hlt)
                have HSET := Lib.hid (take_set_succ Q k 9218868437227405312 hlt)
                obtain ⟨s1, s2⟩ := hown.stored k (.float .f64 9218868437227405312)
                have s3 := own_cut s1 (m := k + 1) (by omega)
                rw [map_set', ← List.map_take, HSET.out] at s3
                have S3 := Lib.hid s3
                have S2 := Lib.hid s2
                have HOWN := Lib.hid hown
                have hcp2 : Q.length ≤ c4 := by
                  rcases hown.2 with ⟨h, _⟩ | ⟨g', cap', cur, hv, _, _, hc', _⟩
                  · cases h
                  · cases hv; exact hc'
                clear s1 s2 s3 hown
                generalize Q[k] = x at *
                cases hle : leB x 4607182418800017408 with
                | true =>
                  have HLE := Lib.hid hle
                  have hle2 : (FloatKind.f64.format.order x 4607182418800017408 == some .gt) = false := by
                    show (Ieee.double.order x 4607182418800017408 == some .gt) = false
                    rw [hgt]; unfold leB at hle; rw [hle]; rfl
                  clear hle hgt
                  go_wp2_with fail
                  go_roundw
                  case rel => exact ⟨k + 1, Q, by omega, hQP, by go_num, rfl, HOWN.out, by rw [← HL1.out HLE.out, HCUT.out], fun y hy => HQ.out y (by rw [HDR.out]; exact List.mem_cons_of_mem _ hy), hb⟩
                  case measure => simp [intOf]; omega
                | false =>
                  have HLE := Lib.hid hle
                  have hle2 : (FloatKind.f64.format.order x 4607182418800017408 == some .gt) = true := by
                    show (Ieee.double.order x 4607182418800017408 == some .gt) = true
                    rw [hgt]; unfold leB at hle; rw [hle]; rfl
                  clear hle hgt
                  go_wp2_with (go_at_call 16; go_must (refine (infinite_any _).mono ?_; rintro e w3 ⟨rfl, rfl⟩))
                  have e1 : (Q.take k ++ [9218868437227405312]).length = k + 1 := by simp; omega
                  go_roundw
                  case rel =>
                    refine ⟨k + 1, Q.take k ++ [9218868437227405312], by omega, by omega, by go_num, by rw [e1], ?_, ?_, ?_, hb.grown S2.out hb.size (fun j hj => by cases hj; exact hgb)⟩
                    · rw [e1]; exact S3.out
                    · rw [List.take_of_length_le (by omega), List.drop_eq_nil_of_le (by omega), ← HCUT.out, HL2.out HLE.out]; simp [cutOne]
                    · rw [List.drop_eq_nil_of_le (by omega)]; intro y hy; cases hy
                  case measure => simp [intOf]; omega
              · have hk2 : k = Q.length := by omega
                have hQc : Q = cutOne P := by
                  have := HCUT.out
                  rw [hk2, List.take_length, List.drop_length] at this
                  simpa [cutOne] using this
                have HS := Lib.hid (RdC.of_owns (f := Value.float .f64) hown)
                have HB := Lib.hid (HR3.out.below hb)
                have HY := Lib.hid (HB3.out.below hb)
                have hb0 := hb03.trans (hb.mono hb03.size)
                have HQC := Lib.hid hQc
                clear hQc hk2 hown hb3 hb12 hb02 hb03
                have hw2 : 2 ≤ (whole64 xs).length := by rw [HL.out]; exact h2
                cases hu1 : (u.toList == [98, 121, 116, 101, 115]) with
                | true =>
                  have hn1 : (u.toList != [98, 121, 116, 101, 115]) = false := by unfold bne; rw [hu1]; rfl
                  go_wp2_with (at_builtin; go_must (refine wpList_copyF rfl _ _ rfl rfl g1 0 c1 (whole xs).length rfl (whole64 xs) HL.out.symm HB.out (by omega) (by omega) ?_))
                  intro vpa Wpa hrpa hxpa
                  have HB1 := Lib.hid (HB.out.below hxpa)
                  have HY1 := Lib.hid (HY.out.below hxpa)
                  have HS1 := Lib.hid (HS.out.below hxpa)
                  have hb01 := hb0.trans (hxpa.mono hb0.size)
                  have HRpa := Lib.hid hrpa
                  clear hrpa
                  go_wp2_with fail
                  refine (unitBytes _ (whole64 xs) _ HRpa.out HFP.out (by omega) (by omega)).mono ?_
                  rintro e Wpb ⟨vpb, rfl, hrpb, hxpb⟩
                  have HB2 := Lib.hid (HB1.out.below hxpb)
                  have HY2 := Lib.hid (HY1.out.below hxpb)
                  have HS2 := Lib.hid (HS1.out.below hxpb)
                  have hb02 := hb01.trans (hxpb.mono hb01.size)
                  have HRpb := Lib.hid hrpb
                  clear hrpb
                  go_wp2_with fail
                  refine (sameNums_any _ _ _ _ _ HRpb.out HY2.out).mono ?_
                  rintro e Wpc ⟨rfl, hxpc⟩
                  have HB3 := Lib.hid (HB2.out.below hxpc)
                  have HY3 := Lib.hid (HY2.out.below hxpc)
                  have HS3 := Lib.hid (HS2.out.below hxpc)
                  have hb03 := hb02.trans (hxpc.mono hb02.size)
                  rw [sameL_refl _ (fun y hy => HFP.out y (pick_mem _ _ y hy))]
                  go_wp2_with (at_builtin; go_must (refine wpList_copyF rfl _ _ rfl rfl g1 0 c1 (whole xs).length rfl (whole64 xs) HL.out.symm HB3.out (by omega) (by omega) ?_))
                  intro vqa Wqa hrqa hxqa
                  have HB4 := Lib.hid (HB3.out.below hxqa)
                  have HY4 := Lib.hid (HY3.out.below hxqa)
                  have HS4 := Lib.hid (HS3.out.below hxqa)
                  have hb04 := hb03.trans (hxqa.mono hb03.size)
                  have HRqa := Lib.hid hrqa
                  clear hrqa
                  go_wp2_with fail
                  refine (unitSecs _ (whole64 xs) _ HRqa.out HFP.out (by omega) (by omega)).mono ?_
                  rintro e Wqb ⟨vqb, rfl, hrqb, hxqb⟩
                  have HB5 := Lib.hid (HB4.out.below hxqb)
                  have HY5 := Lib.hid (HY4.out.below hxqb)
                  have HS5 := Lib.hid (HS4.out.below hxqb)
                  have hb05 := hb04.trans (hxqb.mono hb04.size)
                  have HRqb := Lib.hid hrqb
                  clear hrqb
                  go_wp2_with fail
                  refine (sameNums_any _ _ _ _ _ HRqb.out HS5.out).mono ?_
                  rintro e Wqc ⟨rfl, hxqc⟩
                  have HB6 := Lib.hid (HB5.out.below hxqc)
                  have HY6 := Lib.hid (HY5.out.below hxqc)
                  have HS6 := Lib.hid (HS5.out.below hxqc)
                  have hb06 := hb05.trans (hxqc.mono hb05.size)
                  rw [HQC.out, HPe.out, sameL_nn _ (cutOne_fp _ (fun y hy => HFP.out y (pick_mem _ _ y hy)))]
                  go_wp2_with fail
                  go_ret
                  exact ⟨rfl, hb06⟩
                | false =>
                  have hn1 : (u.toList != [98, 121, 116, 101, 115]) = true := by unfold bne; rw [hu1]; rfl
                  cases hu2 : (u.toList == [115, 101, 99, 111, 110, 100, 115]) with
                  | true =>
                    have hn2 : (u.toList != [115, 101, 99, 111, 110, 100, 115]) = false := by unfold bne; rw [hu2]; rfl
                    go_wp2_with (at_builtin; go_must (refine wpList_copyF rfl _ _ rfl rfl g1 0 c1 (whole xs).length rfl (whole64 xs) HL.out.symm HB.out (by omega) (by omega) ?_))
                    intro vpa Wpa hrpa hxpa
                    have HB1 := Lib.hid (HB.out.below hxpa)
                    have HY1 := Lib.hid (HY.out.below hxpa)
                    have HS1 := Lib.hid (HS.out.below hxpa)
                    have hb01 := hb0.trans (hxpa.mono hb0.size)
                    have HRpa := Lib.hid hrpa
                    clear hrpa
                    go_wp2_with fail
                    refine (unitBytes _ (whole64 xs) _ HRpa.out HFP.out (by omega) (by omega)).mono ?_
                    rintro e Wpb ⟨vpb, rfl, hrpb, hxpb⟩
                    have HB2 := Lib.hid (HB1.out.below hxpb)
                    have HY2 := Lib.hid (HY1.out.below hxpb)
                    have HS2 := Lib.hid (HS1.out.below hxpb)
                    have hb02 := hb01.trans (hxpb.mono hb01.size)
                    have HRpb := Lib.hid hrpb
                    clear hrpb
                    go_wp2_with fail
                    refine (sameNums_any _ _ _ _ _ HRpb.out HY2.out).mono ?_
                    rintro e Wpc ⟨rfl, hxpc⟩
                    have HB3 := Lib.hid (HB2.out.below hxpc)
                    have HY3 := Lib.hid (HY2.out.below hxpc)
                    have HS3 := Lib.hid (HS2.out.below hxpc)
                    have hb03 := hb02.trans (hxpc.mono hb02.size)
                    rw [sameL_refl _ (fun y hy => HFP.out y (pick_mem _ _ y hy))]
                    go_wp2_with (at_builtin; go_must (refine wpList_copyF rfl _ _ rfl rfl g1 0 c1 (whole xs).length rfl (whole64 xs) HL.out.symm HB3.out (by omega) (by omega) ?_))
                    intro vqa Wqa hrqa hxqa
                    have HB4 := Lib.hid (HB3.out.below hxqa)
                    have HY4 := Lib.hid (HY3.out.below hxqa)
                    have HS4 := Lib.hid (HS3.out.below hxqa)
                    have hb04 := hb03.trans (hxqa.mono hb03.size)
                    have HRqa := Lib.hid hrqa
                    clear hrqa
                    go_wp2_with fail
                    refine (unitSecs _ (whole64 xs) _ HRqa.out HFP.out (by omega) (by omega)).mono ?_
                    rintro e Wqb ⟨vqb, rfl, hrqb, hxqb⟩
                    have HB5 := Lib.hid (HB4.out.below hxqb)
                    have HY5 := Lib.hid (HY4.out.below hxqb)
                    have HS5 := Lib.hid (HS4.out.below hxqb)
                    have hb05 := hb04.trans (hxqb.mono hb04.size)
                    have HRqb := Lib.hid hrqb
                    clear hrqb
                    go_wp2_with fail
                    refine (sameNums_any _ _ _ _ _ HRqb.out HS5.out).mono ?_
                    rintro e Wqc ⟨rfl, hxqc⟩
                    have HB6 := Lib.hid (HB5.out.below hxqc)
                    have HY6 := Lib.hid (HY5.out.below hxqc)
                    have HS6 := Lib.hid (HS5.out.below hxqc)
                    have hb06 := hb05.trans (hxqc.mono hb05.size)
                    rw [HQC.out, HPe.out, sameL_nn _ (cutOne_fp _ (fun y hy => HFP.out y (pick_mem _ _ y hy)))]
                    go_wp2_with fail
                    go_ret
                    exact ⟨rfl, hb06⟩
                  | false =>
                    have hn2 : (u.toList != [115, 101, 99, 111, 110, 100, 115]) = true := by unfold bne; rw [hu2]; rfl
                    go_wp2_with (at_builtin; go_must (refine wpList_copyF rfl _ _ rfl rfl g1 0 c1 (whole xs).length rfl (whole64 xs) HL.out.symm HB.out (by omega) (by omega) ?_))
                    intro voa Woa hroa hxoa
                    have HB1 := Lib.hid (HB.out.below hxoa)
                    have HY1 := Lib.hid (HY.out.below hxoa)
                    have HS1 := Lib.hid (HS.out.below hxoa)
                    have hb01 := hb0.trans (hxoa.mono hb0.size)
                    have HRoa := Lib.hid hroa
                    clear hroa
                    go_wp2_with fail
                    refine (unitOther _ (whole64 xs) u hu1 hu2 _ HRoa.out HFP.out (by omega) (by omega)).mono ?_
                    rintro e Wob ⟨vob, rfl, hrob, hxob⟩
                    have HB2 := Lib.hid (HB1.out.below hxob)
                    have HY2 := Lib.hid (HY1.out.below hxob)
                    have HS2 := Lib.hid (HS1.out.below hxob)
                    have hb02 := hb01.trans (hxob.mono hb01.size)
                    have HRob := Lib.hid hrob
                    clear hrob
                    go_wp2_with fail
                    refine (sameNums_any _ _ _ _ _ HRob.out HB2.out).mono ?_
                    rintro e Woc ⟨rfl, hxoc⟩
                    have HB3 := Lib.hid (HB2.out.below hxoc)
                    have HY3 := Lib.hid (HY2.out.below hxoc)
                    have HS3 := Lib.hid (HS2.out.below hxoc)
                    have hb03 := hb02.trans (hxoc.mono hb02.size)
                    rw [sameL_refl _ HFP.out]
                    go_wp2_with (at_builtin; go_must (refine wpList_copyF rfl _ _ rfl rfl g1 0 c1 (whole xs).length rfl (whole64 xs) HL.out.symm HB3.out (by omega) (by omega) ?_))
                    intro vpa Wpa hrpa hxpa
                    have HB4 := Lib.hid (HB3.out.below hxpa)
                    have HY4 := Lib.hid (HY3.out.below hxpa)
                    have HS4 := Lib.hid (HS3.out.below hxpa)
                    have hb04 := hb03.trans (hxpa.mono hb03.size)
                    have HRpa := Lib.hid hrpa
                    clear hrpa
                    go_wp2_with fail
                    refine (unitBytes _ (whole64 xs) _ HRpa.out HFP.out (by omega) (by omega)).mono ?_
                    rintro e Wpb ⟨vpb, rfl, hrpb, hxpb⟩
                    have HB5 := Lib.hid (HB4.out.below hxpb)
                    have HY5 := Lib.hid (HY4.out.below hxpb)
                    have HS5 := Lib.hid (HS4.out.below hxpb)
                    have hb05 := hb04.trans (hxpb.mono hb04.size)
                    have HRpb := Lib.hid hrpb
                    clear hrpb
                    go_wp2_with fail
                    refine (sameNums_any _ _ _ _ _ HRpb.out HY5.out).mono ?_
                    rintro e Wpc ⟨rfl, hxpc⟩
                    have HB6 := Lib.hid (HB5.out.below hxpc)
                    have HY6 := Lib.hid (HY5.out.below hxpc)
                    have HS6 := Lib.hid (HS5.out.below hxpc)
                    have hb06 := hb05.trans (hxpc.mono hb05.size)
                    rw [sameL_refl _ (fun y hy => HFP.out y (pick_mem _ _ y hy))]
                    go_wp2_with (at_builtin; go_must (refine wpList_copyF rfl _ _ rfl rfl g1 0 c1 (whole xs).length rfl (whole64 xs) HL.out.symm HB6.out (by omega) (by omega) ?_))
                    intro vqa Wqa hrqa hxqa
                    have HB7 := Lib.hid (HB6.out.below hxqa)
                    have HY7 := Lib.hid (HY6.out.below hxqa)
                    have HS7 := Lib.hid (HS6.out.below hxqa)
                    have hb07 := hb06.trans (hxqa.mono hb06.size)
                    have HRqa := Lib.hid hrqa
                    clear hrqa
                    go_wp2_with fail
                    refine (unitSecs _ (whole64 xs) _ HRqa.out HFP.out (by omega) (by omega)).mono ?_
                    rintro e Wqb ⟨vqb, rfl, hrqb, hxqb⟩
                    have HB8 := Lib.hid (HB7.out.below hxqb)
                    have HY8 := Lib.hid (HY7.out.below hxqb)
                    have HS8 := Lib.hid (HS7.out.below hxqb)
                    have hb08 := hb07.trans (hxqb.mono hb07.size)
                    have HRqb := Lib.hid hrqb
                    clear hrqb
                    go_wp2_with fail
                    refine (sameNums_any _ _ _ _ _ HRqb.out HS8.out).mono ?_
                    rintro e Wqc ⟨rfl, hxqc⟩
                    have HB9 := Lib.hid (HB8.out.below hxqc)
                    have HY9 := Lib.hid (HY8.out.below hxqc)
                    have HS9 := Lib.hid (HS8.out.below hxqc)
                    have hb09 := hb08.trans (hxqc.mono hb08.size)
                    rw [HQC.out, HPe.out, sameL_nn _ (cutOne_fp _ (fun y hy => HFP.out y (pick_mem _ _ y hy)))]
                    go_wp2_with fail
                    go_ret
                    exact ⟨rfl, hb09⟩
          · go_wp2_with fail
            go_ret
            exact ⟨rfl, hb02⟩
    · go_enter Try.func5, Try.ntmps5
      go_wp2_with fail
      go_ret
      exact ⟨rfl, Below.refl _ _⟩
  · go_enter Try.func5, Try.ntmps5
    go_wp2_with fail
    go_ret
    exact ⟨rfl, Below.refl _ _⟩

theorem fnUnitBuckets.walk0 (w : World) (v : Value) (xs : List Int) (hv : RdI w v xs) (u : ByteArray) (hu : u.size ≤ maxLen) :
    Calls Try.prog 5 #[v, .string u] w fun e w' => e = .returned (.bool true) ∧ Below w.heap.size w w' := unitLaw v xs u w hv
end Go.Proofs.Yteibgcmpkgilfaa
