/- Texts and names that may be: utf8.ValidString, IsValidMetricName, IsValidLabelName, checkLabelName, validateLabelValues, errors.New. -/
import Derived.Test.YtojlpfakdodnfaaGreatDoorChg
import Derived.Test.YtojlpfakdodnfaaGreatDoorSl
import Derived.Test.YtojlpfakdodnfaaGreatDoorShelf
import Derived.BigQuiet
set_option linter.unusedVariables false
set_option linter.unusedSimpArgs false
namespace Go.Proofs.YtojlpfakdodnfaaGreatDoor
open Go.RowKit Go.Maps

/-- The two tables of unicode/utf8 stand. -/
def UT (w : World) : Prop := Lib.Utf8Tabs (Tryz.laysValid_ren.g 3) (Tryz.laysValid_ren.g 4) w
def vU (s : ByteArray) : Bool := Lib.validD s.data.toList
def okName (s : ByteArray) : Bool := decide (0 < s.size) && vU s
def okLbl (s : ByteArray) : Bool := okName s && !Lib.hasPrefix s.data.toList [95, 95]
theorem validStr (s : ByteArray) (w : World) (hs : s.size ≤ maxLen) (hT : UT w) : Calls Tryz.prog 59 #[.string s] w fun e w' => e = .returned (.bool (vU s)) ∧ Below w.heap.size w w' :=
  Any.utf8_ValidString Tryz.laysValid s w (by unfold maxLen at hs; omega) hT

set_option maxRecDepth 100000 in
theorem validMetric (s : ByteArray) (w : World) (hs : s.size ≤ maxLen) (hT : UT w) : Calls Tryz.prog 63 #[.string s] w fun e w' => e = .returned (.bool (okName s)) ∧ Below w.heap.size w w' := by
  have hC := Lib.hid (validStr s w hs hT)
  unfold okName
  generalize vU s = V at *
  by_cases h0 : 0 < s.size
  · have h0z : (0 : Int) < (s.size : Int) := by omega
    rw [decide_eq_true h0, Bool.true_and]
    go_enter Tryz.func63, Tryz.ntmps63
    go_wp2_with (go_at_call 59; go_must (refine hC.out.mono ?_))
    first | rintro e w2 rfl hb | rintro e w2 ⟨rfl, hb⟩
    go_wp2_with fail
    go_ret
    exact ⟨rfl, hb⟩
  · have h0z : ¬ ((0 : Int) < (s.size : Int)) := by omega
    rw [decide_eq_false h0, Bool.false_and]
    go_enter Tryz.func63, Tryz.ntmps63
    go_wp2_with fail
    go_ret
    exact ⟨rfl, Below.refl _ _⟩
set_option maxRecDepth 100000 in
theorem validLabel (s : ByteArray) (w : World) (hs : s.size ≤ maxLen) (hT : UT w) : Calls Tryz.prog 72 #[.string s] w fun e w' => e = .returned (.bool (okName s)) ∧ Below w.heap.size w w' := by
  have hC := Lib.hid (validStr s w hs hT)
  unfold okName
  generalize vU s = V at *
  by_cases h0 : 0 < s.size
  · have h0z : (0 : Int) < (s.size : Int) := by omega
    rw [decide_eq_true h0, Bool.true_and]
    go_enter Tryz.func72, Tryz.ntmps72
    go_wp2_with (go_at_call 59; go_must (refine hC.out.mono ?_))
    first | rintro e w2 rfl hb | rintro e w2 ⟨rfl, hb⟩
    go_wp2_with fail
    go_ret
    exact ⟨rfl, hb⟩
  · have h0z : ¬ ((0 : Int) < (s.size : Int)) := by omega
    rw [decide_eq_false h0, Bool.false_and]
    go_enter Tryz.func72, Tryz.ntmps72
    go_wp2_with fail
    go_ret
    exact ⟨rfl, Below.refl _ _⟩
set_option maxRecDepth 100000 in
theorem checkLabel (s : ByteArray) (w : World) (hs : s.size ≤ maxLen) (hT : UT w) : Calls Tryz.prog 64 #[.string s] w fun e w' => e = .returned (.bool (okLbl s)) ∧ Below w.heap.size w w' := by
  have hC := Lib.hid (validLabel s w hs hT)
  have hP : Hid (∀ z, Calls Tryz.prog 73 #[.string s, .string ⟨#[95, 95]⟩] z fun e w' => e = .returned (.bool (Lib.hasPrefix s.data.toList [95, 95])) ∧ w' = z) := Lib.hid (fun z => Tryz.strings_HasPrefix s ⟨#[95, 95]⟩ z)
  unfold okLbl
  generalize Lib.hasPrefix s.data.toList [95, 95] = F at *
  cases hV : okName s with
  | true =>
    rw [hV] at hC
    rw [Bool.true_and]
    go_enter Tryz.func64, Tryz.ntmps64
    go_wp2_with (go_at_call 72; go_must (refine hC.out.mono ?_))
    first | rintro e w2 rfl hb | rintro e w2 ⟨rfl, hb⟩
    go_wp2_with (go_at_call 73; go_must (refine (hP.out _).mono ?_))
    first | rintro e w3 rfl rfl | rintro e w3 ⟨rfl, rfl⟩
    cases F with
    | true => go_wp2_with fail; go_ret; exact ⟨rfl, hb⟩
    | false => go_wp2_with fail; go_ret; exact ⟨rfl, hb⟩
  | false =>
    rw [hV] at hC
    rw [Bool.false_and]
    go_enter Tryz.func64, Tryz.ntmps64
    go_wp2_with (go_at_call 72; go_must (refine hC.out.mono ?_))
    first | rintro e w2 rfl hb | rintro e w2 ⟨rfl, hb⟩
    go_wp2_with fail
    go_ret
    exact ⟨rfl, hb⟩
/-- An error that is not nil. -/
def IsErr (v : Value) : Prop := ∃ t x, v = .iface t x
set_option maxRecDepth 100000 in
theorem errNew (s : ByteArray) (w : World) : Calls Tryz.prog 60 #[.string s] w fun e w' => (∃ v, e = .returned v ∧ IsErr v) ∧ Below w.heap.size w w' := by
  go_enter Tryz.func60, Tryz.ntmps60
  go_wp2_with fail
  go_ret
  exact ⟨⟨_, rfl, _, _, rfl⟩, (Below.refl _ w).alloc (Nat.le_refl _) _⟩
end Go.Proofs.YtojlpfakdodnfaaGreatDoor
