/- SameTexts of equal lists; DescPlainPairs. -/
import Derived.Test.YtojlpfakdodnfaaGreatDoorLpf
import Derived.Test.YtojlpfakdodnfaaGreatDoorWp
import Derived.Test.YtojlpfakdodnfaaGreatDoorAlk3a
set_option linter.unusedVariables false
set_option linter.unusedSimpArgs false
namespace Go.Proofs.YtojlpfakdodnfaaGreatDoor
open Go.RowKit

/-- What DescWrapped and WrapMeta answer. -/
def SaidW2 (D : Dsc) (nm : ByteArray) (L : List Ent) (w w' : World) (e : Ending) : Prop :=
  (∃ n h u xa xl xc ya yl yc, e = .returned (.tuple #[MetaV n h u (.slice xa xl xc) (.slice ya yl yc), .bool (wrapFine D L)]) ∧ (wrapFine D L = true → n = nm ∧ h = D.help ∧ u = D.unit ∧ RdC Value.string w' (.slice xa xl xc) D.vars ∧ RdE w' (.slice ya yl yc) (fit (fit D.cons ++ fit L)))) ∧ Stp w w'

set_option maxHeartbeats 1600000 in
set_option maxRecDepth 100000 in
theorem sameTextsT (v1 v2 : Value) (xs : List ByteArray) (w : World) (h1 : RdC Value.string w v1 xs) (h2 : RdC Value.string w v2 xs) :
    Calls Tryz.prog 27 #[v1, v2] w fun e w' => e = .returned (.bool true) ∧ Below w.heap.size w w' := by
  obtain ⟨a, cap, b, off, rfl, hcap, hmx, ha, hc⟩ := h1
  obtain ⟨a', cap', b', off', rfl, hcap', hmx', ha', hc'⟩ := h2
  unfold maxLen at hmx hmx'
  have HC := Lib.hid hc
  have HD := Lib.hid hc'
  clear hc hc'
  go_enter Tryz.func27, Tryz.ntmps27
  go_wp2_with fail
  go_loopw [5] (fun i wx => ∃ k : Nat, k ≤ xs.length ∧ i = .int .i64 (k : Int) ∧ Below w.heap.size w wx) (fun i _ => xs.length - (intOf i).toNat)
  case atStart => exact ⟨0, Nat.zero_le _, rfl, Below.refl _ _⟩
  case round =>
    obtain ⟨k, hk, rfl, hbr⟩ := hrel
    have HBR := Lib.hid hbr
    by_cases hlt : k < xs.length
    · have hlti : (k : Int) < (xs.length : Int) := by omega
      obtain rfl : a = some ⟨b, off, none⟩ := by
        rcases ha with h | h
        · rw [h] at hlt; exact absurd hlt (Nat.not_lt_zero _)
        · exact h
      obtain rfl : a' = some ⟨b', off', none⟩ := by
        rcases ha' with h | h
        · rw [h] at hlt; exact absurd hlt (Nat.not_lt_zero _)
        · exact h
      have c1 := HC.out k xs[k] (List.getElem?_eq_getElem hlt)
      have c3 := HD.out k xs[k] (List.getElem?_eq_getElem hlt)
      have d1 := (hbr.cell (p := ⟨b, off + k, none⟩) (World.block_lt_of_cell? w _ c1)).trans c1
      have d3 := (hbr.cell (p := ⟨b', off' + k, none⟩) (World.block_lt_of_cell? w _ c3)).trans c3
      clear c1 c3 hbr
      generalize xs[k] = y at *
      go_upto_region 6 with fail
      go_quiet (fail)
      go_wp2_with fail
      go_roundw
      case rel => exact ⟨k + 1, by omega, by go_num, below_drewN HBR.out _⟩
      case measure => simp [intOf]; omega
    · have hlti : ¬ (k : Int) < (xs.length : Int) := by omega
      go_wp2_with fail
      go_ret
      exact ⟨rfl, HBR.out⟩
/-- All names are plain (not le, not quantile), all values printable. -/
def PlainAll (xs : List Ent) : Prop := ∀ x ∈ xs, nameOk x.1 = true ∧ prnS x.2 = true
set_option maxHeartbeats 3200000 in
set_option maxRecDepth 100000 in
theorem plainPairs (v : Value) (xs : List Ent) (w : World) (hv : RdE w v xs) (hsz : ∀ x ∈ xs, Tiny x) :
    Calls Tryz.prog 42 #[v] w fun e w' => SaidB (PlainAll xs) w w' e := by
  have HSZ := Lib.hid hsz
  clear hsz
  obtain ⟨a, cap, b, off, rfl, hcap, hmx, ha, hc⟩ := hv
  unfold maxLen at hmx
  have HC := Lib.hid hc
  clear hc
  go_enter Tryz.func42, Tryz.ntmps42
  go_wp2_with fail
  go_loop [3] (fun i => ∃ k : Nat, k ≤ xs.length ∧ i = .int .i64 k ∧ Hid (PlainAll (xs.take k))) (fun i => xs.length - (intOf i).toNat)
  case atStart => exact ⟨0, Nat.zero_le _, rfl, Lib.hid (fun x hx => by simp at hx)⟩
  case round =>
    obtain ⟨k, hk, rfl, HP0⟩ := hrel
    by_cases hlt : k < xs.length
    · have hlti : (k : Int) < (xs.length : Int) := by omega
      obtain rfl : a = some ⟨b, off, none⟩ := by
        rcases ha with h | h
        · rw [h] at hlt; exact absurd hlt (Nat.not_lt_zero _)
        · exact h
      obtain ⟨d1, d2⟩ := HC.out k xs[k] (List.getElem?_eq_getElem hlt)
      obtain ⟨z1, z2⟩ := HSZ.out xs[k] (List.getElem_mem _)
      have HT : Hid (nameOk xs[k].1 = true → prnS xs[k].2 = true → PlainAll (xs.take (k + 1))) := Lib.hid (fun h h' x hx => by
        rw [List.take_succ_eq_append_getElem hlt] at hx
        rcases List.mem_append.1 hx with hx | hx
        · exact HP0.out x hx
        · rw [List.mem_singleton.1 hx]; exact ⟨h, h'⟩)
      generalize xs[k] = y at *
      obtain ⟨s, t⟩ := y
      simp only at d1 d2 z1 z2 HT
      have HPL := Lib.hid (plainK s (by unfold maxLen; omega) w)
      have HAS := Lib.hid (ascii t w (by omega))
      have HNM : Hid (nameOk s = (plain s && !isLe s && !isQu s)) := Lib.hid rfl
      unfold isLe isQu at HNM
      generalize nameOk s = nx at *
      clear z1 z2
      cases hpl : plain s
      all_goals cases hpr : prnS t
      all_goals cases hle : (s.toList == [108, 101])
      all_goals cases hqu : (s.toList == [113, 117, 97, 110, 116, 105, 108, 101])
      all_goals
        rw [hpl] at HPL HNM
        rw [hpr] at HAS HT
        rw [hle, hqu] at HNM
        clear hpl hpr
        go_wp2_with (first
          | (go_at_call 33; go_must (refine HPL.out.mono ?_); first | rintro e w5 rfl rfl | rintro e w5 ⟨rfl, rfl⟩)
          | (go_at_call 34; go_must (refine HAS.out.mono ?_); first | rintro e w5 rfl rfl | rintro e w5 ⟨rfl, rfl⟩))
        try (go_ret
             exact ⟨⟨_, rfl, fun h => by cases h⟩, Below.refl _ _⟩)
      have HX := Lib.hid (HT.out HNM.out (by trivial))
      go_round
      case rel => exact ⟨k + 1, by omega, by go_num, HX⟩
      case measure => simp [intOf]; omega
    · have hlti : ¬ (k : Int) < (xs.length : Int) := by omega
      have HALL : Hid (PlainAll xs) := Lib.hid (by have := HP0.out; rwa [List.take_of_length_le (by omega)] at this)
      go_wp2_with fail
      go_ret
      exact ⟨⟨_, rfl, fun _ => HALL.out⟩, Below.refl _ _⟩
end Go.Proofs.YtojlpfakdodnfaaGreatDoor
