/- The law FnName: for every three strings, joining them gives what the reference gives. -/
import Derived.Test.YteibgcmpkgilfaaName
import Derived.ProofKit
import Derived.OpenShut
set_option linter.unusedVariables false
set_option linter.unusedSimpArgs false
namespace Go.Proofs.Yteibgcmpkgilfaa
open Go.RowKit

theorem ret_bytes {x : ByteArray} {l : List UInt8} (h : x.data.toList = l) : Ending.returned (.string x) = .returned (.string ⟨l.toArray⟩) := by subst h; rfl
theorem dataE (s : ByteArray) : (s.data = #[]) = (s.toList.isEmpty = true) := by rw [Lib.toList_data]; simp

theorem fq_any (a b c : ByteArray) (w : World) (ha : a.size ≤ 2147483647) (hb : b.size ≤ 2147483647) (hc : c.size ≤ 2147483647) :
    Calls Try.prog 12 #[.string a, .string b, .string c] w fun e w' => e = .returned (.string ⟨(fqL a.data.toList b.data.toList c.data.toList).toArray⟩) ∧ Below w.heap.size w w' := by
  go_enter Try.func12, Try.ntmps12
  go_wp2_with fail
  refine (build_any a b c _ ha hb hc).mono ?_
  rintro e w1 ⟨rfl, h1⟩
  go_wp2_with fail
  go_ret
  exact ⟨rfl, h1⟩

theorem lives (w : World) :
    Calls Try.prog 14 #[] w fun e w' => e = .returned (.bool true) ∧ Below w.heap.size w w' := by
  go_enter Try.func14, Try.ntmps14
  go_wp2_with fail
  refine (fq_any _ _ _ _ (by decide) (by decide) (by decide)).mono ?_
  rintro e w1 ⟨rfl, h1⟩
  go_wp2_with fail
  go_ret
  exact ⟨by rfl, h1⟩

set_option maxHeartbeats 1000000 in
theorem desc_any (a b c : ByteArray) (w : World) (ha : a.size ≤ 2147483647) (hb : b.size ≤ 2147483647) (hc : c.size ≤ 2147483647) :
    Calls Try.prog 13 #[.string a, .string b, .string c] w fun e w' => e = .returned (.string ⟨(fqL a.data.toList b.data.toList c.data.toList).toArray⟩) ∧ w = w' := by
  cases ea : a.toList.isEmpty <;> cases eb : b.toList.isEmpty <;> cases ec : c.toList.isEmpty
  all_goals
    go_enter Try.func13, Try.ntmps13
    go_wp2
    go_ret
    exact ⟨ret_bytes (by simp [fqL, dataE, ea, eb, ec]), rfl⟩

set_option maxHeartbeats 1000000 in
theorem law_any (a b c : ByteArray) (w : World) :
    Calls Try.prog 4 #[.string a, .string b, .string c] w fun e w' => e = .returned (.bool true) ∧ Below w.heap.size w w' := by
  by_cases ha : a.size ≤ 2147483647
  · by_cases hb : b.size ≤ 2147483647
    · by_cases hc : c.size ≤ 2147483647
      · go_enter Try.func4, Try.ntmps4
        go_wp2_with fail
        refine (fq_any _ _ _ _ ha hb hc).mono ?_
        rintro e w1 ⟨rfl, h1⟩
        go_wp2_with fail
        refine (desc_any _ _ _ _ ha hb hc).mono ?_
        rintro e w2 ⟨rfl, rfl⟩
        go_wp2_with fail
        refine (lives _).mono ?_
        rintro e w2 ⟨rfl, h2⟩
        go_wp2_with fail
        go_ret
        exact ⟨rfl, h1.trans (h2.mono (by have := h1.size; omega))⟩
      · go_enter Try.func4, Try.ntmps4
        go_wp2_with fail
        go_ret
        exact ⟨rfl, Below.refl _ _⟩
    · go_enter Try.func4, Try.ntmps4
      go_wp2_with fail
      go_ret
      exact ⟨rfl, Below.refl _ _⟩
  · go_enter Try.func4, Try.ntmps4
    go_wp2_with fail
    go_ret
    exact ⟨rfl, Below.refl _ _⟩
theorem fnName.walk0 (w : World) (a : ByteArray) (_ : a.size ≤ maxLen) (b : ByteArray) (_ : b.size ≤ maxLen) (c : ByteArray) (_ : c.size ≤ maxLen) :
    Calls Try.prog 4 #[.string a, .string b, .string c] w fun e w' => e = .returned (.bool true) ∧ Below w.heap.size w w' := law_any a b c w
end Go.Proofs.Yteibgcmpkgilfaa
