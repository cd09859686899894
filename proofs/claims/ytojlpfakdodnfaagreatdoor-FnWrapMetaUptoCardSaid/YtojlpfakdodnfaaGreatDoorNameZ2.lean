/- FQName, descLives. -/
import Derived.Test.YtojlpfakdodnfaaGreatDoorNameZ
import Derived.ProofKit
import Derived.OpenShut
set_option linter.unusedVariables false
set_option linter.unusedSimpArgs false
namespace Go.Proofs.YtojlpfakdodnfaaGreatDoor
open Go.RowKit

theorem ret_bytes {x : ByteArray} {l : List UInt8} (h : x.data.toList = l) : Ending.returned (.string x) = .returned (.string ⟨l.toArray⟩) := by subst h; rfl
theorem dataE (s : ByteArray) : (s.data = #[]) = (s.toList.isEmpty = true) := by rw [Lib.toList_data]; simp

theorem fq_any (a b c : ByteArray) (w : World) (ha : a.size ≤ 2147483647) (hb : b.size ≤ 2147483647) (hc : c.size ≤ 2147483647) :
    Calls Tryz.prog 32 #[.string a, .string b, .string c] w fun e w' => e = .returned (.string ⟨(fqL a.data.toList b.data.toList c.data.toList).toArray⟩) ∧ Below w.heap.size w w' := by
  go_enter Tryz.func32, Tryz.ntmps32
  go_wp2_with fail
  refine (build_any a b c _ ha hb hc).mono ?_
  rintro e w1 ⟨rfl, h1⟩
  go_wp2_with fail
  go_ret
  exact ⟨rfl, h1⟩

theorem lives (w : World) :
    Calls Tryz.prog 11 #[] w fun e w' => e = .returned (.bool true) ∧ Below w.heap.size w w' := by
  go_enter Tryz.func11, Tryz.ntmps11
  go_wp2_with fail
  refine (fq_any _ _ _ _ (by decide) (by decide) (by decide)).mono ?_
  rintro e w1 ⟨rfl, h1⟩
  go_wp2_with fail
  go_ret
  exact ⟨by rfl, h1⟩

end Go.Proofs.YtojlpfakdodnfaaGreatDoor
