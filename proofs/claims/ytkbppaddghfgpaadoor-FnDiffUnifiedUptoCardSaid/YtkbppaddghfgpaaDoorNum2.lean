/- The ranges of a hunk: the program's and the reference's. -/
import Derived.Test.YtkbppaddghfgpaaDoorNum
import Derived.Lib.ItoaMem
set_option linter.unusedVariables false
set_option linter.unusedSimpArgs false
namespace Go.Proofs.YtkbppaddghfgpaaDoor
open Go.RowKit Go.Maps

/-- The library's table of powers stands. -/
def Tab (w : World) : Prop := Lib.TabIs Tryd.prog w "internal/strconv.uint64pow10" .u64 Lib.pow10Tab
theorem Tab.below {w w' : World} (h : Tab w) (hb : Below w.heap.size w w') : Tab w' := by
  unfold Tab Lib.TabIs World.var? at *
  cases hg : Tryd.prog.globalNamed "internal/strconv.uint64pow10" with
  | none => rw [hg] at h; cases h
  | some g =>
    simp only [hg] at h
    simp only [Option.bind_some] at h ⊢
    have hlt : g < w.heap.size := by
      rcases Nat.lt_or_ge g w.heap.size with h' | h'
      · exact h'
      · rw [Array.getElem?_eq_none h'] at h; cases h
    rw [hb.block g hlt]
    exact h
theorem below_grow0 (w : World) (k : Nat) (os : Array Obj) : Below w.heap.size w (Sort.grow (w.drewN k) os) := by
  refine ⟨rfl, rfl, rfl, by simp [Sort.grow, World.drewN], fun i hi => ?_⟩
  show (w.heap ++ os)[i]? = w.heap[i]?
  rw [Array.getElem?_append_left hi]
theorem itoa (n : Nat) (hn : n ≤ 4294967296) (w : World) (ht : Tab w) : Calls Tryd.prog 36 #[.int .i64 (n : Int)] w fun e w' => e = .returned (.string ⟨(Lib.decDigits n).toArray⟩) ∧ Below w.heap.size w w' :=
  (Tryd.strconv_Itoa (n : Int) (by omega) (by omega) w ht).mono fun e w' ⟨h1, k, os, h2⟩ => ⟨by rw [h1, Lib.itoa_nonneg], by rw [h2]; exact below_grow0 w k os⟩
theorem dec_zero : Lib.decDigits 0 = [48] := by rw [Lib.decDigits, dif_pos (by decide)]; rfl

set_option maxHeartbeats 800000 in
set_option maxRecDepth 100000 in
theorem formatRange (s e : Nat) (hse : s ≤ e) (he : e ≤ 2147483647) (w : World) (ht : Tab w) :
    Calls Tryd.prog 28 #[.int .i64 (s : Int), .int .i64 (e : Int)] w fun x w' => x = .returned (.string ⟨(rngT s e).toArray⟩) ∧ Below w.heap.size w w' := by
  obtain ⟨d, rfl⟩ := Nat.exists_eq_add_of_le hse
  have hw1 : IntKind.i64.wrap ((s : Int) + 1) = (s : Int) + 1 := IntWalk.i64_in _ ⟨by omega, by omega⟩
  have hw2 : IntKind.i64.wrap ((s : Int) + (d : Int) - (s : Int)) = (d : Int) := (IntWalk.i64_in _ ⟨by omega, by omega⟩).trans (by omega)
  have hl1 := dec_len (u := s + 1) (by omega)
  have hl2 := dec_len (u := s) (by omega)
  have hl3 := dec_len (u := d) (by omega)
  have hc1 : ∀ w, Tab w → Calls Tryd.prog 36 #[.int .i64 ((s : Int) + 1)] w fun e w' => e = .returned (.string ⟨(Lib.decDigits (s + 1)).toArray⟩) ∧ Below w.heap.size w w' := fun w h => by
    have := itoa (s + 1) (by omega) w h
    rwa [Int.natCast_add] at this
  have hds : s + d - s = d := by omega
  have HC1 := Lib.hid hc1
  have HT := Lib.hid ht
  clear hc1 ht
  by_cases h1 : d = 1
  · have e1 : ((d : Int) == 1) = true := by simp; omega
    have HR : Hid (rngT s (s + d) = Lib.decDigits (s + 1)) := Lib.hid (by unfold rngT; rw [hds, if_pos h1])
    have H1 := Lib.hid h1
    clear h1 hds
    go_enter Tryd.func28, Tryd.ntmps28
    go_wp2_with (go_at_call 36; go_must (refine (HC1.out _ HT.out).mono ?_))
    rintro e w1 ⟨rfl, hb1⟩
    go_wp2_with fail
    go_ret
    exact ⟨by rw [HR.out]; rfl, hb1⟩
  · have e1 : ((d : Int) == 1) = false := by simp; omega
    by_cases h0 : d = 0
    · have e0 : ((d : Int) == 0) = true := by simp; omega
      have HR : Hid (rngT s (s + d) = Lib.decDigits s ++ [44, 48]) := Lib.hid (by unfold rngT; rw [hds, if_neg h1, if_pos h0])
      have hw3 : IntKind.i64.wrap ((s : Int) + 1 - 1) = (s : Int) := (IntWalk.i64_in _ ⟨by omega, by omega⟩).trans (by omega)
      have HD : Hid (∀ w, Tab w → Calls Tryd.prog 36 #[.int .i64 (d : Int)] w fun e w' => e = .returned (.string ⟨#[48]⟩) ∧ Below w.heap.size w w') := Lib.hid (fun w h => by
        have := itoa d (by omega) w h
        rw [h0, dec_zero] at this
        rw [h0]
        exact this)
      have H1 := Lib.hid h1
      have H0 := Lib.hid h0
      clear h1 h0 hds
      go_enter Tryd.func28, Tryd.ntmps28
      go_wp2_with (go_at_call 36; go_must (refine (itoa s (by omega) _ HT.out).mono ?_))
      rintro e w1 ⟨rfl, hb1⟩
      go_wp2_with (go_at_call 36; go_must (refine (HD.out _ (HT.out.below hb1)).mono ?_))
      rintro e w2 ⟨rfl, hb2⟩
      go_wp2_with fail
      go_ret
      refine ⟨?_, hb1.trans (hb2.mono hb1.size)⟩
      rw [HR.out]
      refine congrArg Ending.returned (congrArg Value.string ?_)
      show ((⟨(Lib.decDigits s).toArray⟩ : ByteArray) ++ ⟨[44].toArray⟩) ++ ⟨[48].toArray⟩ = _
      rw [bytes_app, bytes_app, List.append_assoc]
      rfl
    · have e0 : ((d : Int) == 0) = false := by simp; omega
      have HR : Hid (rngT s (s + d) = Lib.decDigits (s + 1) ++ 44 :: Lib.decDigits d) := Lib.hid (by unfold rngT; rw [hds, if_neg h1, if_neg h0])
      have H1 := Lib.hid h1
      have H0 := Lib.hid h0
      clear h1 h0 hds
      go_enter Tryd.func28, Tryd.ntmps28
      go_wp2_with (go_at_call 36; go_must (refine (HC1.out _ HT.out).mono ?_))
      rintro e w1 ⟨rfl, hb1⟩
      go_wp2_with (go_at_call 36; go_must (refine (itoa d (by omega) _ (HT.out.below hb1)).mono ?_))
      rintro e w2 ⟨rfl, hb2⟩
      go_wp2_with fail
      go_ret
      refine ⟨?_, hb1.trans (hb2.mono hb1.size)⟩
      rw [HR.out]
      refine congrArg Ending.returned (congrArg Value.string ?_)
      show ((⟨(Lib.decDigits (s + 1)).toArray⟩ : ByteArray) ++ ⟨[44].toArray⟩) ++ ⟨(Lib.decDigits d).toArray⟩ = _
      rw [bytes_app, bytes_app, List.append_assoc]
      rfl

set_option maxHeartbeats 800000 in
set_option maxRecDepth 100000 in
theorem diffRange (s e : Nat) (hse : s ≤ e) (he : e ≤ 2147483647) (w : World) :
    Calls Tryd.prog 12 #[.int .i64 (s : Int), .int .i64 (e : Int)] w fun x w' => x = .returned (.string ⟨(rngT s e).toArray⟩) ∧ Below w.heap.size w w' := by
  obtain ⟨d, rfl⟩ := Nat.exists_eq_add_of_le hse
  have hw1 : IntKind.i64.wrap ((s : Int) + 1) = (s : Int) + 1 := IntWalk.i64_in _ ⟨by omega, by omega⟩
  have hw2 : IntKind.i64.wrap ((s : Int) + (d : Int) - (s : Int)) = (d : Int) := (IntWalk.i64_in _ ⟨by omega, by omega⟩).trans (by omega)
  have hl1 := dec_len (u := s + 1) (by omega)
  have hl2 := dec_len (u := s) (by omega)
  have hl3 := dec_len (u := d) (by omega)
  have hc1 : ∀ w, Calls Tryd.prog 21 #[.int .i64 ((s : Int) + 1)] w fun e w' => e = .returned (.string ⟨(Lib.decDigits (s + 1)).toArray⟩) ∧ Below w.heap.size w w' := fun w => by
    have := diffNumber (s + 1) (by omega) w
    rwa [Int.natCast_add] at this
  have hds : s + d - s = d := by omega
  have HC1 := Lib.hid hc1
  clear hc1
  by_cases h1 : d = 1
  · have e1 : ((d : Int) == 1) = true := by simp; omega
    have e0 : ((d : Int) == 0) = false := by simp; omega
    have HR : Hid (rngT s (s + d) = Lib.decDigits (s + 1)) := Lib.hid (by unfold rngT; rw [hds, if_pos h1])
    have H1 := Lib.hid h1
    clear h1 hds
    go_enter Tryd.func12, Tryd.ntmps12
    go_wp2_with (go_at_call 21; go_must (refine (HC1.out _).mono ?_))
    rintro e w1 ⟨rfl, hb1⟩
    go_wp2_with fail
    go_ret
    exact ⟨by rw [HR.out]; rfl, hb1⟩
  · have e1 : ((d : Int) == 1) = false := by simp; omega
    by_cases h0 : d = 0
    · have e0 : ((d : Int) == 0) = true := by simp; omega
      have HR : Hid (rngT s (s + d) = Lib.decDigits s ++ [44, 48]) := Lib.hid (by unfold rngT; rw [hds, if_neg h1, if_pos h0])
      have H1 := Lib.hid h1
      have H0 := Lib.hid h0
      clear h1 h0 hds
      go_enter Tryd.func12, Tryd.ntmps12
      go_wp2_with (go_at_call 21; go_must (refine (diffNumber s (by omega) _).mono ?_))
      rintro e w1 ⟨rfl, hb1⟩
      go_wp2_with fail
      go_ret
      refine ⟨?_, hb1⟩
      rw [HR.out]
      refine congrArg Ending.returned (congrArg Value.string ?_)
      exact bytes_app (Lib.decDigits s) [44, 48]
    · have e0 : ((d : Int) == 0) = false := by simp; omega
      have HR : Hid (rngT s (s + d) = Lib.decDigits (s + 1) ++ 44 :: Lib.decDigits d) := Lib.hid (by unfold rngT; rw [hds, if_neg h1, if_neg h0])
      have H1 := Lib.hid h1
      have H0 := Lib.hid h0
      clear h1 h0 hds
      go_enter Tryd.func12, Tryd.ntmps12
      go_wp2_with (go_at_call 21; go_must (refine (HC1.out _).mono ?_))
      rintro e w1 ⟨rfl, hb1⟩
      go_wp2_with (go_at_call 21; go_must (refine (diffNumber d (by omega) _).mono ?_))
      rintro e w2 ⟨rfl, hb2⟩
      go_wp2_with fail
      go_ret
      refine ⟨?_, hb1.trans (hb2.mono hb1.size)⟩
      rw [HR.out]
      refine congrArg Ending.returned (congrArg Value.string ?_)
      show ((⟨(Lib.decDigits (s + 1)).toArray⟩ : ByteArray) ++ ⟨[44].toArray⟩) ++ ⟨(Lib.decDigits d).toArray⟩ = _
      rw [bytes_app, bytes_app, List.append_assoc]
      rfl
end Go.Proofs.YtkbppaddghfgpaaDoor
