/- impl.Negotiate, and the law FnAcceptChosen. -/
import Derived.Test.YtkbppaddghfgpaaAcc14
set_option linter.unusedVariables false
set_option linter.unusedSimpArgs false
namespace Go.Proofs.Ytkbppaddghfgpaa
open Go.RowKit

set_option maxHeartbeats 1600000 in
set_option maxRecDepth 100000 in
theorem implNeg (v ov : Value) (g : List UInt8) (ess : List (List Ent)) (os : List ByteArray) (w : World) (hg : g = [] ∨ g = [32])
    (hv : RdC Value.string w v (ess.map (lineB g))) (hn : ess.length ≤ 2147483647) (htot : ess.flatten.length ≤ 4294967296)
    (hok : ∀ es ∈ ess, ∀ x ∈ es, EntOk x) (hsz : ∀ es ∈ ess, (lineL g es).length ≤ 9223372036854775806) (hov : RdC Value.string w ov os) :
    Calls Try.prog 12 #[v, ov] w fun e w' => e = .returned (.string (negR ess.flatten os)) ∧ Below w.heap.size w w' := by
  have HOK := Lib.hid hok
  have HSZ := Lib.hid hsz
  have HV := Lib.hid hv
  have HOV := Lib.hid hov
  clear hok hsz hv hov
  obtain ⟨w2, hins, hb2, hlook⟩ := map_made ⟨#[65, 99, 99, 101, 112, 116, 45, 69, 110, 99, 111, 100, 105, 110, 103]⟩ (by decide) v w
  have HLK := Lib.hid hlook
  clear hlook
  have hmk := fun t => run_makeMap (P := Try.prog) t w
  go_enter Try.func12, Try.ntmps12
  go_wp2_with (go_at_call 33; go_must (refine (negImpl _ v _ g ess os _ hg HLK.out (HV.out.below hb2) hn htot HOK.out HSZ.out (HOV.out.below hb2)).mono ?_))
  rintro e w3 ⟨rfl, hb3⟩
  go_wp2_with fail
  go_ret
  exact ⟨rfl, hb2.trans (hb3.mono hb2.size)⟩

theorem line_small {g : List UInt8} (hg : g.length ≤ 1) {es : List Ent} (h : ∀ x ∈ es, EntOk x) (hs : ∀ x ∈ es, Small x) (hl : es.length ≤ 2147483647) : (lineL g es).length ≤ 9223372036854775806 := by
  have := line_len g hg es h hs
  omega
theorem gap_or (bl : Bool) : gapOf bl = [] ∨ gapOf bl = [32] := by cases bl <;> simp [gapOf]
theorem gap_len (bl : Bool) : (gapOf bl).length ≤ 1 := by cases bl <;> simp [gapOf]

set_option maxHeartbeats 3200000 in
set_option maxRecDepth 100000 in
theorem chosenLaw (v ov : Value) (c : Int) (bl : Bool) (xs : List Ent) (os : List ByteArray) (w : World) (hv : RdE w v xs) (hsz : ∀ x ∈ xs, x.1.size ≤ maxLen ∧ x.2.size ≤ maxLen)
    (h0 : 0 ≤ c) (h255 : c ≤ 255) (hov : RdC Value.string w ov os) (hosz : ∀ o ∈ os, o.size ≤ maxLen) :
    Calls Try.prog 3 #[v, .int .u8 c, .bool bl, ov] w fun e w' => e = .returned (.bool true) ∧ Below w.heap.size w w' := by
  have HV := Lib.hid hv
  have HOV := Lib.hid hov
  have HSZ := Lib.hid hsz
  have HOSZ := Lib.hid hosz
  clear hv hov hsz hosz
  go_enter Try.func3, Try.ntmps3
  go_wp2_with (go_at_call 8; go_must (refine (fits1 v xs _ HV.out HSZ.out).mono ?_))
  rintro e w1 ⟨⟨b1, rfl, hf1⟩, hb1⟩
  have HF1 := Lib.hid hf1
  clear hf1
  cases b1 with
  | false =>
    go_wp2_with fail
    go_ret
    exact ⟨rfl, hb1⟩
  | true =>
    go_wp2_with (go_at_call 9; go_must (refine (fits3 ov os _ (HOV.out.below hb1) HOSZ.out).mono ?_))
    rintro e w2 ⟨⟨b2, rfl, hf2⟩, rfl⟩
    cases b2 with
    | false =>
      go_wp2_with fail
      go_ret
      exact ⟨rfl, hb1⟩
    | true =>
      obtain ⟨hl, hsm⟩ := HF1.out (by trivial)
      have HSM := Lib.hid hsm
      clear hsm hf2
      go_wp2_with (go_at_call 10; go_must (refine (accAll v xs _ (HV.out.below hb1) hl HSM.out).mono ?_))
      rintro e w2 ⟨⟨v2, ok, rfl, hok⟩, hb2⟩
      have hb12 := hb1.trans (hb2.mono hb1.size)
      have HOK := Lib.hid hok
      clear hok
      cases ok with
      | false =>
        go_wp2_with (go_at_call 11; go_must (refine (awake _).mono ?_))
        rintro e w3 ⟨rfl, hb3⟩
        go_wp2_with fail
        go_ret
        exact ⟨rfl, hb12.trans (hb3.mono hb12.size)⟩
      | true =>
        have HENT := Lib.hid (HOK.out (by trivial)).1
        have HRD := Lib.hid (HOK.out (by trivial)).2
        clear HOK
        go_wp2_with (go_at_call 13; go_must (refine (accLines v xs c bl _ (HV.out.below hb12) hl h0 h255 HENT.out HSM.out).mono ?_))
        rintro e w3 ⟨⟨v3, k, rfl, hlines⟩, hb3⟩
        have hb13 := hb12.trans (hb3.mono hb12.size)
        have HLN := Lib.hid (show RdC Value.string w3 v3 ([xs.take k, xs.drop k].map (lineB (gapOf bl))) from hlines)
        clear hlines
        have HFL : Hid ([xs.take k, xs.drop k].flatten = xs) := Lib.hid (by simp)
        have HE1 : Hid (∀ es ∈ [xs.take k, xs.drop k], ∀ x ∈ es, EntOk x) := Lib.hid (by
          intro es hes x hx
          simp only [List.mem_cons, List.not_mem_nil, or_false] at hes
          rcases hes with rfl | rfl
          · exact HENT.out x (List.mem_of_mem_take hx)
          · exact HENT.out x (List.mem_of_mem_drop hx))
        have HE2 : Hid (∀ es ∈ [xs.take k, xs.drop k], (lineL (gapOf bl) es).length ≤ 9223372036854775806) := Lib.hid (by
          intro es hes
          simp only [List.mem_cons, List.not_mem_nil, or_false] at hes
          rcases hes with rfl | rfl
          · exact line_small (gap_len bl) (fun x hx => HENT.out x (List.mem_of_mem_take hx)) (fun x hx => HSM.out x (List.mem_of_mem_take hx)) (by rw [List.length_take]; omega)
          · exact line_small (gap_len bl) (fun x hx => HENT.out x (List.mem_of_mem_drop hx)) (fun x hx => HSM.out x (List.mem_of_mem_drop hx)) (by rw [List.length_drop]; omega))
        go_wp2_with (go_at_call 12; go_must (refine (implNeg v3 ov (gapOf bl) [xs.take k, xs.drop k] os _ (gap_or bl) HLN.out (by simp) (by rw [HFL.out]; omega) HE1.out HE2.out (HOV.out.below hb13)).mono ?_))
        rintro e w4 ⟨rfl, hb4⟩
        rw [HFL.out]
        have hb14 := hb13.trans (hb4.mono hb13.size)
        have hb24 := hb3.trans (hb4.mono hb3.size)
        go_wp2_with (go_at_call 14; go_must (refine (negSpec v2 ov xs os _ (RdP.below HRD.out hb24) (HOV.out.below hb14)).mono ?_))
        rintro e w5 ⟨rfl, hb5⟩
        have hb15 := hb14.trans (hb5.mono hb14.size)
        generalize negR xs os = t
        go_wp2_with (go_at_call 11; go_must (refine (awake _).mono ?_))
        rintro e w6 ⟨rfl, hb6⟩
        go_wp2_with fail
        go_ret
        exact ⟨rfl, hb15.trans (hb6.mono hb15.size)⟩
end Go.Proofs.Ytkbppaddghfgpaa
