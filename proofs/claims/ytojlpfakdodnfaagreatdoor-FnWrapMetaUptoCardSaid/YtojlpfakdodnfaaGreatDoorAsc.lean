/- Ascii (of the reference): whether all bytes are printable. -/
import Derived.Test.YtojlpfakdodnfaaGreatDoorChecked
import Derived.WalkKit
import Derived.Lib.Hide
set_option linter.unusedVariables false
set_option linter.unusedSimpArgs false
namespace Go.Proofs.YtojlpfakdodnfaaGreatDoor
open Go.RowKit

def prnU (c : UInt8) : Bool := decide (32 ≤ c.toNat) && decide (c.toNat ≤ 126)
def prnS (s : ByteArray) : Bool := s.data.toList.all prnU
theorem prn_succ (s : ByteArray) (k : Nat) (hk : k < s.size) (h : (s.data.toList.take k).all prnU = true) (hc : prnU s[k] = true) : (s.data.toList.take (k + 1)).all prnU = true := by
  have hk' : k < s.data.toList.length := by simpa using hk
  rw [List.take_succ_eq_append_getElem hk', List.all_append, h]
  have : s.data.toList[k] = s[k] := by rw [Array.getElem_toList]; rfl
  rw [this]
  simp [hc]
theorem prn_not (s : ByteArray) (k : Nat) (hk : k < s.size) (hc : prnU s[k] = false) : prnS s = false := by
  have hk' : k < s.data.toList.length := by simpa using hk
  have : s.data.toList[k] = s[k] := by rw [Array.getElem_toList]; rfl
  unfold prnS
  rw [List.all_eq_false]
  exact ⟨s.data.toList[k], List.getElem_mem hk', by rw [this, hc]; simp⟩

set_option maxHeartbeats 1600000 in
set_option maxRecDepth 100000 in
theorem ascii (s : ByteArray) (w : World) (hm : s.size ≤ 9223372036854775806) :
    Calls Tryz.prog 34 #[.string s] w fun e w' => e = .returned (.bool (prnS s)) ∧ w = w' := by
  go_enter Tryz.func34, Tryz.ntmps34
  go_wp2_with fail
  go_loop [3] (fun i => ∃ k : Nat, k ≤ s.size ∧ i = .int .i64 k ∧ Hid ((s.data.toList.take k).all prnU = true)) (fun i => s.size - (intOf i).toNat)
  case atStart => exact ⟨0, Nat.zero_le _, rfl, Lib.hid rfl⟩
  case round =>
    obtain ⟨k, hk, rfl, HALL⟩ := hrel
    by_cases hlt : k < s.size
    · have hc8 := s[k].toNat_lt
      have HN : Hid (prnU s[k] = true → Hid ((s.data.toList.take (k + 1)).all prnU = true)) := Lib.hid (fun h => Lib.hid (prn_succ s k hlt HALL.out h))
      have HF : Hid (prnU s[k] = false → prnS s = false) := Lib.hid (fun h => prn_not s k hlt h)
      rcases (by omega : s[k].toNat < 32 ∨ (32 ≤ s[k].toNat ∧ s[k].toNat ≤ 126) ∨ 126 < s[k].toNat) with h | h | h
      · have e1 : decide ((s[k].toNat : Int) < 32) = true := decide_eq_true (by omega)
        have HU := Lib.hid (HF.out (by unfold prnU; rw [decide_eq_false (by omega)]; rfl))
        clear h hc8
        go_wp2_with fail
        go_ret
        exact ⟨by rw [HU.out]; rfl, rfl⟩
      · have e1 : decide ((s[k].toNat : Int) < 32) = false := decide_eq_false (by omega)
        have e2 : decide ((126 : Int) < (s[k].toNat : Int)) = false := decide_eq_false (by omega)
        have e3 : decide (126 < s[k].toNat) = false := decide_eq_false (by omega)
        have HU := HN.out (by unfold prnU; rw [decide_eq_true h.1, decide_eq_true h.2]; rfl)
        clear h hc8
        go_wp2_with fail
        go_round
        case rel => exact ⟨k + 1, by omega, by go_num, HU⟩
        case measure => simp [intOf]; omega
      · have e1 : decide ((s[k].toNat : Int) < 32) = false := decide_eq_false (by omega)
        have e2 : decide ((126 : Int) < (s[k].toNat : Int)) = true := decide_eq_true (by omega)
        have e3 : decide (126 < s[k].toNat) = true := decide_eq_true (by omega)
        have HU := Lib.hid (HF.out (by unfold prnU; rw [decide_eq_false (by omega : ¬ s[k].toNat ≤ 126), Bool.and_false]))
        clear h hc8
        go_wp2_with fail
        go_ret
        exact ⟨by rw [HU.out]; rfl, rfl⟩
    · have HE : Hid (prnS s = true) := Lib.hid (by
        have := HALL.out
        rw [List.take_of_length_le (by simp; omega)] at this
        exact this)
      go_wp2_with fail
      go_ret
      exact ⟨by rw [HE.out]; rfl, rfl⟩
end Go.Proofs.YtojlpfakdodnfaaGreatDoor
