/- Ratios: calculateRatio, Ratio, minInt, RealQuickRatio, diffMatched, spec's Ratio, RealRatio. -/
import Derived.Test.YtkbppaddghfgpaaDif26
import Derived.Test.YtkbppaddghfgpaaDifE
import Derived.Test.YtkbppaddghfgpaaRat
set_option linter.unusedVariables false
set_option linter.unusedSimpArgs false
namespace Go.Proofs.Ytkbppaddghfgpaa
open Go.RowKit Go.Maps

/-- The ratio: 1 for empty lists. -/
def ratV (m n : Nat) : Nat := if n = 0 then 4607182418800017408 else ratW m n

set_option maxHeartbeats 800000 in
set_option maxRecDepth 100000 in
theorem calcRatio (m n : Nat) (hm : m ≤ 4294967296) (hn : n ≤ 4294967296) (w : World) :
    Calls Try.prog 55 #[.int .i64 (m : Int), .int .i64 (n : Int)] w fun e w' => e = .returned (.float .f64 (ratV m n)) ∧ w' = w := by
  by_cases h0 : n = 0
  · have h1 : ¬ (0 : Int) < (n : Int) := by omega
    have HR : Hid (ratV m n = 4607182418800017408) := Lib.hid (by unfold ratV; rw [if_pos h0])
    have H0 := Lib.hid h0
    clear h0
    go_enter Try.func55, Try.ntmps55
    go_wp2_with fail
    go_ret
    exact ⟨by rw [HR.out]; rfl, rfl⟩
  · have h1 : (0 : Int) < (n : Int) := by omega
    have HR : Hid (ratV m n = ratW m n) := Lib.hid (by unfold ratV; rw [if_neg h0])
    have q1 := two_times (m := m) (by omega)
    have q2 := (rat_some (m := m) (n := n) (by omega) (by omega) (by omega)).1
    generalize floatOfInt .f64 ((2 * m : Nat) : Int) = t at *
    generalize ratW m n = r at *
    have hq1 := fun tt wx => run_float_arith (P := Try.prog) wx .mul tt .f64 _ _ _ q1
    have hq2 := fun tt wx => run_float_arith (P := Try.prog) wx .quo tt .f64 _ _ _ q2
    go_enter Try.func55, Try.ntmps55
    go_wp2_with fail
    go_ret
    exact ⟨by rw [HR.out]; rfl, rfl⟩

set_option maxHeartbeats 800000 in
set_option maxRecDepth 100000 in
theorem minInt (m n : Nat) (w : World) :
    Calls Try.prog 56 #[.int .i64 (m : Int), .int .i64 (n : Int)] w fun e w' => e = .returned (.int .i64 ((min m n : Nat) : Int)) ∧ w' = w := by
  by_cases h0 : m < n
  · have h1 : (m : Int) < (n : Int) := by omega
    have HR : Hid (min m n = m) := Lib.hid (by omega)
    go_enter Try.func56, Try.ntmps56
    go_wp2_with fail
    go_ret
    exact ⟨by rw [HR.out]; rfl, rfl⟩
  · have h1 : ¬ (m : Int) < (n : Int) := by omega
    have HR : Hid (min m n = n) := Lib.hid (by omega)
    go_enter Try.func56, Try.ntmps56
    go_wp2_with fail
    go_ret
    exact ⟨by rw [HR.out]; rfl, rfl⟩

set_option maxHeartbeats 800000 in
set_option maxRecDepth 100000 in
theorem specRatio (p1 p2 : Option Addr) (la ca lb cb m : Nat) (hla : la ≤ 2147483647) (hlb : lb ≤ 2147483647) (hm : m ≤ 4294967296) (w : World) :
    Calls Try.prog 24 #[.slice p1 la ca, .slice p2 lb cb, .int .i64 (m : Int)] w fun e w' => e = .returned (.float .f64 (ratV m (la + lb))) ∧ w' = w := by
  have hw : IntKind.i64.wrap ((la : Int) + (lb : Int)) = (la : Int) + (lb : Int) := IntWalk.i64_in _ ⟨by omega, by omega⟩
  by_cases h0 : la + lb = 0
  · have h1 : ((la : Int) + (lb : Int) == 0) = true := by simp; omega
    have HR : Hid (ratV m (la + lb) = 4607182418800017408) := Lib.hid (by unfold ratV; rw [if_pos h0])
    have H0 := Lib.hid h0
    clear h0
    go_enter Try.func24, Try.ntmps24
    go_wp2_with fail
    go_ret
    exact ⟨by rw [HR.out]; rfl, rfl⟩
  · have h1 : ((la : Int) + (lb : Int) == 0) = false := by simp; omega
    have HR : Hid (ratV m (la + lb) = ratW m (la + lb)) := Lib.hid (by unfold ratV; rw [if_neg h0])
    have q1 := two_times (m := m) (by omega)
    have q2 := (rat_some (m := m) (n := la + lb) (by omega) (by omega) (by omega)).1
    rw [Int.natCast_add] at q2
    generalize floatOfInt .f64 ((2 * m : Nat) : Int) = t at *
    generalize ratW m (la + lb) = r at *
    have hq1 := fun tt wx => run_float_arith (P := Try.prog) wx .mul tt .f64 _ _ _ q1
    have hq2 := fun tt wx => run_float_arith (P := Try.prog) wx .quo tt .f64 _ _ _ q2
    go_enter Try.func24, Try.ntmps24
    go_wp2_with fail
    go_ret
    exact ⟨by rw [HR.out]; rfl, rfl⟩

set_option maxHeartbeats 800000 in
set_option maxRecDepth 100000 in
theorem realRatio (p1 p2 : Option Addr) (la ca lb cb : Nat) (hla : la ≤ 2147483647) (hlb : lb ≤ 2147483647) (w : World) :
    Calls Try.prog 27 #[.slice p1 la ca, .slice p2 lb cb] w fun e w' => e = .returned (.float .f64 (ratV (min la lb) (la + lb))) ∧ w' = w := by
  by_cases h : lb < la
  · have HR : Hid (min la lb = lb) := Lib.hid (by omega)
    have h' : (lb : Int) < (la : Int) := by omega
    have h2 : ¬ (la : Int) < (lb : Int) := by omega
    have h3 : ¬ (la : Int) ≤ (lb : Int) := by omega
    go_enter Try.func27, Try.ntmps27
    go_wp2_with (go_at_call 24; go_must (refine (specRatio p1 p2 la ca lb cb lb hla hlb (by omega) _).mono ?_))
    go_ret
    exact ⟨by rw [HR.out]; rfl, rfl⟩
  · have HR : Hid (min la lb = la) := Lib.hid (by omega)
    have h' : ¬ (lb : Int) < (la : Int) := by omega
    have h3 : (la : Int) ≤ (lb : Int) := by omega
    go_enter Try.func27, Try.ntmps27
    go_wp2_with (go_at_call 24; go_must (refine (specRatio p1 p2 la ca lb cb la hla hlb (by omega) _).mono ?_))
    go_ret
    exact ⟨by rw [HR.out]; rfl, rfl⟩

set_option maxHeartbeats 800000 in
set_option maxRecDepth 100000 in
theorem realQuick (p1 p2 : Option Addr) (M la ca lb cb : Nat) (hla : la ≤ 2147483647) (hlb : lb ≤ 2147483647) (w : World)
    (h0 : w.cell? ⟨M, 0, none⟩ = some (.slice p1 la ca)) (h1 : w.cell? ⟨M, 1, none⟩ = some (.slice p2 lb cb)) :
    Calls Try.prog 47 #[.pointer (some ⟨M, 0, none⟩)] w fun e w' => e = .returned (.float .f64 (ratV (min la lb) (la + lb))) ∧ Below w.heap.size w w' := by
  have hw : IntKind.i64.wrap ((la : Int) + (lb : Int)) = (la : Int) + (lb : Int) := IntWalk.i64_in _ ⟨by omega, by omega⟩
  have hcr : ∀ w, Calls Try.prog 55 #[.int .i64 ((min la lb : Nat) : Int), .int .i64 ((la : Int) + (lb : Int))] w fun e w' => e = .returned (.float .f64 (ratV (min la lb) (la + lb))) ∧ w' = w := by
    intro w
    have := calcRatio (min la lb) (la + lb) (by omega) (by omega) w
    rwa [Int.natCast_add] at this
  have HCR := Lib.hid hcr
  clear hcr
  go_enter Try.func47, Try.ntmps47
  go_upto_region 1 with fail
  go_big_quiet (fail)
  have hb : Below w.heap.size w (w.drewN nq) := ⟨rfl, rfl, rfl, Nat.le_refl _, fun _ _ => rfl⟩
  go_wp2_with (go_at_call 56; go_must (refine (minInt la lb _).mono ?_))
  rintro e w1 ⟨rfl, rfl⟩
  go_wp2_with (go_at_call 55; go_must (refine (HCR.out _).mono ?_))
  rintro e w1 ⟨rfl, rfl⟩
  go_wp2_with fail
  go_ret
  exact ⟨rfl, hb⟩
end Go.Proofs.Ytkbppaddghfgpaa
