/- What graphKeeps and replaceInvalidRune come to, and WriteRune at an ASCII rune. -/
import Derived.Test.YteibgcmpkgilfaaBld
import Derived.WalkSpells
import Derived.WalkLawsBesides
set_option linter.unusedVariables false
set_option linter.unusedSimpArgs false
namespace Go.Proofs.Yteibgcmpkgilfaa
open Go.RowKit

def keepsI (c : Int) : Bool := decide (97 ≤ c ∧ c ≤ 122 ∨ 65 ≤ c ∧ c ≤ 90 ∨ 48 ≤ c ∧ c ≤ 57 ∨ c = 95 ∨ c = 58 ∨ c = 45)
def replI (c : Int) : Int := if c = 32 then 46 else if keepsI c then c else 95

theorem keeps_true {c : Int} (h : 97 ≤ c ∧ c ≤ 122 ∨ 65 ≤ c ∧ c ≤ 90 ∨ 48 ≤ c ∧ c ≤ 57 ∨ c = 95 ∨ c = 58 ∨ c = 45) : keepsI c = true := decide_eq_true h
theorem keeps_false {c : Int} (h : ¬ (97 ≤ c ∧ c ≤ 122 ∨ 65 ≤ c ∧ c ≤ 90 ∨ 48 ≤ c ∧ c ≤ 57 ∨ c = 95 ∨ c = 58 ∨ c = 45)) : keepsI c = false := decide_eq_false h

theorem byte_cases (c : Int) (h0 : 0 ≤ c) (h1 : c ≤ 255) : c ≤ 31 ∨ c = 32 ∨ (33 ≤ c ∧ c ≤ 44) ∨ c = 45 ∨ (46 ≤ c ∧ c ≤ 47) ∨ (48 ≤ c ∧ c ≤ 57) ∨ c = 58 ∨ (59 ≤ c ∧ c ≤ 64) ∨ (65 ≤ c ∧ c ≤ 90) ∨ (91 ≤ c ∧ c ≤ 94) ∨ c = 95 ∨ c = 96 ∨ (97 ≤ c ∧ c ≤ 122) ∨ 123 ≤ c := by omega

set_option maxHeartbeats 4000000 in
set_option maxRecDepth 100000 in
theorem graphKeeps_any (c : Int) (h0 : 0 ≤ c) (h1 : c ≤ 255) (w : World) :
    Calls Try.prog 27 #[.int .u8 c] w fun e w' => e = .returned (.bool (keepsI c)) ∧ w = w' := by
  rcases byte_cases c h0 h1 with h | rfl | ⟨h, h'⟩ | rfl | ⟨h, h'⟩ | ⟨h, h'⟩ | rfl | ⟨h, h'⟩ | ⟨h, h'⟩ | ⟨h, h'⟩ | rfl | rfl | ⟨h, h'⟩ | h
  all_goals
    first | rw [keeps_true (by omega)] | rw [keeps_false (by omega)]
    try have e1 : (c == 95) = false := by rw [beq_eq_false_iff_ne]; omega
    try have e2 : (c == 58) = false := by rw [beq_eq_false_iff_ne]; omega
    try have e3 : (c == 45) = false := by rw [beq_eq_false_iff_ne]; omega
    try first | have d0 : decide (97 ≤ c) = true := decide_eq_true (by omega) | have d0 : decide (97 ≤ c) = false := decide_eq_false (by omega)
    try first | have d1 : decide (c ≤ 122) = true := decide_eq_true (by omega) | have d1 : decide (c ≤ 122) = false := decide_eq_false (by omega)
    try first | have d2 : decide (65 ≤ c) = true := decide_eq_true (by omega) | have d2 : decide (65 ≤ c) = false := decide_eq_false (by omega)
    try first | have d3 : decide (c ≤ 90) = true := decide_eq_true (by omega) | have d3 : decide (c ≤ 90) = false := decide_eq_false (by omega)
    try first | have d4 : decide (48 ≤ c) = true := decide_eq_true (by omega) | have d4 : decide (48 ≤ c) = false := decide_eq_false (by omega)
    try first | have d5 : decide (c ≤ 57) = true := decide_eq_true (by omega) | have d5 : decide (c ≤ 57) = false := decide_eq_false (by omega)
    go_enter Try.func27, Try.ntmps27
    go_wp2
    go_ret
    exact ⟨rfl, rfl⟩

set_option maxHeartbeats 4000000 in
set_option maxRecDepth 100000 in
theorem replaceRune_any (c : Int) (h0 : 0 ≤ c) (h1 : c ≤ 255) (w : World) :
    Calls Try.prog 43 #[.int .i32 c] w fun e w' => e = .returned (.int .i32 (replI c)) ∧ w = w' := by
  unfold replI
  rcases byte_cases c h0 h1 with h | rfl | ⟨h, h'⟩ | rfl | ⟨h, h'⟩ | ⟨h, h'⟩ | rfl | ⟨h, h'⟩ | ⟨h, h'⟩ | ⟨h, h'⟩ | rfl | rfl | ⟨h, h'⟩ | h
  all_goals
    first | rw [if_pos rfl] | (rw [if_neg (by omega)]; first | rw [keeps_true (by omega)] | rw [keeps_false (by omega)])
    try have e4 : (c == 32) = false := by rw [beq_eq_false_iff_ne]; omega
    try have e1 : (c != 95) = true := by rw [bne_iff_ne]; omega
    try have e2 : (c != 58) = true := by rw [bne_iff_ne]; omega
    try have e3 : (c != 45) = true := by rw [bne_iff_ne]; omega
    try first | have d0 : decide (c < 97) = true := decide_eq_true (by omega) | have d0 : decide (c < 97) = false := decide_eq_false (by omega)
    try first | have d1 : decide (122 < c) = true := decide_eq_true (by omega) | have d1 : decide (122 < c) = false := decide_eq_false (by omega)
    try first | have d2 : decide (c < 65) = true := decide_eq_true (by omega) | have d2 : decide (c < 65) = false := decide_eq_false (by omega)
    try first | have d3 : decide (90 < c) = true := decide_eq_true (by omega) | have d3 : decide (90 < c) = false := decide_eq_false (by omega)
    try first | have d4 : decide (c < 48) = true := decide_eq_true (by omega) | have d4 : decide (c < 48) = false := decide_eq_false (by omega)
    try first | have d5 : decide (57 < c) = true := decide_eq_true (by omega) | have d5 : decide (57 < c) = false := decide_eq_false (by omega)
    go_enter Try.func43, Try.ntmps43
    go_wp2
    go_ret
    exact ⟨rfl, rfl⟩
end Go.Proofs.Yteibgcmpkgilfaa
