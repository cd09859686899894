/- The law FnSanitized. -/
import Derived.Test.YteibgcmpkgilfaaSan4
set_option linter.unusedVariables false
set_option linter.unusedSimpArgs false
namespace Go.Proofs.Yteibgcmpkgilfaa
open Go.RowKit

set_option maxHeartbeats 800000 in
theorem doorSan (s : ByteArray) (w : World) (hs : ∀ i (hi : i < s.size), (s[i]'hi).toNat ≤ 127) (hlen : s.size ≤ 2147483647) :
    Calls Try.prog 28 #[.string s] w fun e w' => e = .returned (.string ⟨(san s.data.toList).toArray⟩) ∧ Below w.heap.size w w' := by
  have hf := fresh_bld w
  go_enter Try.func28, Try.ntmps28
  go_wp2_with (go_at_call 36; go_must (refine (writeSan w.heap.size w.heap.size [] _ _ hf (by simp) hs (by simp; omega)).mono ?_))
  rintro e w1 ⟨rfl, hI, hb, _⟩
  have hb1 := ((Below.refl _ w).alloc (Nat.le_refl _) (.cells #[.pointer none, .slice none 0 0] 46)).trans hb
  go_wp2_with (go_at_call 34; go_must (refine (String_c w _ _ _ _ hI hb1 (Nat.le_refl _)).mono ?_))
  rintro e w2 ⟨rfl, hb2⟩
  go_wp2_with fail
  go_ret
  exact ⟨rfl, hb2⟩

theorem implSan (s : ByteArray) (w : World) (hs : ∀ i (hi : i < s.size), (s[i]'hi).toNat ≤ 127) (hlen : s.size ≤ 2147483647) :
    Calls Try.prog 18 #[.string s] w fun e w' => e = .returned (.string ⟨(san s.data.toList).toArray⟩) ∧ Below w.heap.size w w' := by
  go_enter Try.func18, Try.ntmps18
  go_wp2_with (go_at_call 28; go_must (refine (doorSan _ _ hs hlen).mono ?_))
  rintro e w1 ⟨rfl, hb⟩
  go_wp2_with fail
  go_ret
  exact ⟨rfl, hb⟩

theorem awake_asc : ∀ i (hi : i < (⟨#[97, 32, 98, 36, 99]⟩ : ByteArray).size), ((⟨#[97, 32, 98, 36, 99]⟩ : ByteArray)[i]'hi).toNat ≤ 127 := by decide
theorem awake_san : san [97, 32, 98, 36, 99] = [97, 46, 98, 95, 99] := by decide

theorem awake (w : World) :
    Calls Try.prog 19 #[] w fun e w' => e = .returned (.bool true) ∧ Below w.heap.size w w' := by
  go_enter Try.func19, Try.ntmps19
  go_wp2_with (go_at_call 18; go_must (refine (implSan _ _ awake_asc (by decide)).mono ?_))
  rintro e w1 rfl hb
  rw [awake_san]
  go_wp2_with fail
  go_ret
  exact ⟨rfl, hb⟩

set_option maxHeartbeats 800000 in
theorem sanLaw (s : ByteArray) (hm : s.size ≤ maxLen) (w : World) :
    Calls Try.prog 6 #[.string s] w fun e w' => e = .returned (.bool true) ∧ Below w.heap.size w w' := by
  by_cases hs : s.size ≤ 2147483647
  · go_enter Try.func6, Try.ntmps6
    go_wp2_with (go_at_call 17; go_must (refine (specSan _ _ hs).mono ?_))
    rintro e w1 ⟨⟨t, ok, rfl, hok⟩, hb⟩
    have HO := Lib.hid hok
    clear hok
    cases ok with
    | true =>
      obtain ⟨hasc, ht⟩ := HO.out rfl
      have HT := Lib.hid ht
      clear ht HO
      go_wp2_with (go_at_call 18; go_must (refine (implSan _ _ hasc hs).mono ?_))
      rintro e w2 ⟨rfl, hb2⟩
      have he : (san s.data.toList == t.toList) = true := by rw [Lib.toList_data, HT.out]; simp
      go_wp2_with (go_at_call 19; go_must (refine (awake _).mono ?_))
      rintro e w3 ⟨rfl, hb3⟩
      go_wp2_with fail
      go_ret
      exact ⟨rfl, hb.trans ((hb2.trans (hb3.mono hb2.size)).mono hb.size)⟩
    | false =>
      clear HO
      go_wp2_with (go_at_call 19; go_must (refine (awake _).mono ?_))
      rintro e w2 ⟨rfl, hb2⟩
      go_wp2_with fail
      go_ret
      exact ⟨rfl, hb.trans (hb2.mono hb.size)⟩
  · go_enter Try.func6, Try.ntmps6
    go_wp2_with fail
    go_ret
    exact ⟨rfl, Below.refl _ _⟩
theorem fnSanitized.walk0 (w : World) (s : ByteArray) (hm : s.size ≤ maxLen) :
    Calls Try.prog 6 #[.string s] w fun e w' => e = .returned (.bool true) ∧ Below w.heap.size w w' := sanLaw s hm w
end Go.Proofs.Yteibgcmpkgilfaa
