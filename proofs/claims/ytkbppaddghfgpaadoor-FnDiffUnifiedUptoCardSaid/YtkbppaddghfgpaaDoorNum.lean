/- Numbers and ranges as texts: the reference's and the program's. -/
import Derived.Test.YtkbppaddghfgpaaDoorUni
import Derived.Test.YtkbppaddghfgpaaDoorBldD
import Derived.Test.YtkbppaddghfgpaaDoorDif6
set_option linter.unusedVariables false
set_option linter.unusedSimpArgs false
namespace Go.Proofs.YtkbppaddghfgpaaDoor
open Go.RowKit Go.Maps

theorem bytes_app (l1 l2 : List UInt8) : (⟨l1.toArray⟩ : ByteArray) ++ ⟨l2.toArray⟩ = ⟨(l1 ++ l2).toArray⟩ := by
  apply ByteArray.ext
  simp
/-- The letter of a digit. -/
def dgt (d : Nat) : UInt8 := UInt8.ofNat (48 + d)
theorem digit_text (w : World) (g d : Nat) (hd : d < 10) (x : Int) (hx : x = 48 + (d : Int)) (h : w.cell? ⟨g, 0, none⟩ = some (.int .u8 x)) :
    (convert 54 9 (.slice (some ⟨g, 0, none⟩) 1 1)).run Tryd.prog w = .ok (.string ⟨#[dgt d]⟩) w := by
  have e : ((dgt d).toNat : Int) = 48 + (d : Int) := by
    unfold dgt
    rw [UInt8.toNat_ofNat', Nat.mod_eq_of_lt (by omega)]
    omega
  exact run_convert_bytes_back (P := Tryd.prog) w 54 9 5 ⟨g, 0, none⟩ 1 [dgt d] Tryd.underlying54 Tryd.underlying5 Tryd.underlying9 (fun j hj => by
    have : j = 0 := by simpa using hj
    subst this
    show w.cell? ⟨g, 0, none⟩ = some (.int .u8 ((dgt d).toNat : Int))
    rw [e, h, hx])
theorem u8_digit (d : Nat) (hd : d < 10) : IntKind.u8.wrap (48 + (d : Int)) = 48 + (d : Int) := by
  have : ∀ d : Fin 10, IntKind.u8.wrap (48 + (d.val : Int)) = 48 + (d.val : Int) := by decide
  exact this ⟨d, hd⟩

set_option maxHeartbeats 400000 in
set_option maxRecDepth 100000 in
theorem diffNumber1 (n : Nat) (h : n < 10) (w : World) :
    Calls Tryd.prog 21 #[.int .i64 (n : Int)] w fun e w' => e = .returned (.string ⟨(Lib.decDigits n).toArray⟩) ∧ Below w.heap.size w w' := by
  have h1 : (n : Int) < 10 := by omega
  have hw1 : IntKind.i64.wrap (48 + (n : Int)) = 48 + (n : Int) := IntWalk.i64_in _ ⟨by omega, by omega⟩
  have hw2 := u8_digit n h
  have HD : Hid (Lib.decDigits n = [dgt n]) := Lib.hid (by rw [Lib.decDigits, dif_pos h]; rfl)
  have hcv := digit_text (w.alloc (.cells #[.int .u8 (48 + (n : Int))] 5)) w.heap.size n h _ rfl (by simp)
  generalize dgt n = c at *
  go_enter Tryd.func21, Tryd.ntmps21
  go_wp2_with fail
  go_ret
  exact ⟨by rw [HD.out]; rfl, (Below.refl _ w).alloc (Nat.le_refl _) _⟩

set_option maxHeartbeats 400000 in
set_option maxRecDepth 100000 in
theorem diffNumber2 (n q r : Nat) (h : ¬ n < 10) (hn : n ≤ 4294967296) (hq0 : q = n / 10) (hr0 : r = n % 10) (w : World) (ih : ∀ w, Calls Tryd.prog 21 #[.int .i64 (q : Int)] w fun e w' => e = .returned (.string ⟨(Lib.decDigits q).toArray⟩) ∧ Below w.heap.size w w') :
    Calls Tryd.prog 21 #[.int .i64 (n : Int)] w fun e w' => e = .returned (.string ⟨(Lib.decDigits n).toArray⟩) ∧ Below w.heap.size w w' := by
  have h1 : ¬ (n : Int) < 10 := by omega
  have HD : Hid (Lib.decDigits n = Lib.decDigits q ++ [dgt r]) := Lib.hid (by rw [Lib.decDigits, dif_neg h, hq0, hr0]; rfl)
  have hm : r < 10 := by omega
  have hw2 := u8_digit r hm
  have hw1 : IntKind.i64.wrap (48 + (r : Int)) = 48 + (r : Int) := IntWalk.i64_in _ ⟨by omega, by omega⟩
  have hlen := dec_len (u := q) (by omega)
  have hq : IntKind.i64.wrap ((n : Int) / 10) = (q : Int) := (IntWalk.i64_in _ ⟨by omega, by omega⟩).trans (by omega)
  have ht : (n : Int).tmod 10 = (r : Int) := by
    rw [Int.tmod_eq_emod_of_nonneg (by omega)]; omega
  have IH := Lib.hid ih
  clear ih hq0 hr0
  have hcv := fun w g h => digit_text w g r hm _ rfl h
  go_enter Tryd.func21, Tryd.ntmps21
  go_upto_region 3 with fail
  go_region_with (go_at_call 21; refine (IH.out _).mono ?_; rintro e w' ⟨rfl, hb⟩; have hc5 := hb.cell (p := ⟨w.heap.size, 0, none⟩))
  all_goals (go_wp2_with fail)
  all_goals go_ret
  all_goals (refine ⟨by rw [HD.out]; exact congrArg Ending.returned (congrArg Value.string (bytes_app (Lib.decDigits q) [dgt r])), ?_⟩)
  all_goals (first | exact (((Below.refl _ w).drew.alloc (Nat.le_refl _) _).trans (hb.mono (by simp))) | exact ((Below.refl _ w).drew.trans hb).alloc hb.size _)
theorem diffNumber : ∀ (n : Nat), n ≤ 4294967296 → ∀ w : World, Calls Tryd.prog 21 #[.int .i64 (n : Int)] w fun e w' => e = .returned (.string ⟨(Lib.decDigits n).toArray⟩) ∧ Below w.heap.size w w' := by
  intro n
  induction n using Nat.strongRecOn with
  | _ n ih =>
    intro hn w
    by_cases h : n < 10
    · exact diffNumber1 n h w
    · exact diffNumber2 n (n / 10) (n % 10) h hn rfl rfl w (ih (n / 10) (by omega) (by omega))
end Go.Proofs.YtkbppaddghfgpaaDoor
