/- validateLabelValues. -/
import Derived.Test.YtojlpfakdodnfaaGreatDoorVal
set_option linter.unusedVariables false
set_option linter.unusedSimpArgs false
namespace Go.Proofs.YtojlpfakdodnfaaGreatDoor
open Go.RowKit Go.Maps

/-- The program's error variable holds an error. -/
def EV (w : World) : Prop := ∃ t x, w.cell? ⟨1, 0, none⟩ = some (.iface t x)
theorem EV.below {w x : World} (h : EV w) (hb : Below w.heap.size w x) : EV x := by
  obtain ⟨t, y, h⟩ := h
  exact ⟨t, y, (hb.cell (p := ⟨_, 0, none⟩) (World.block_lt_of_cell? w _ h)).trans h⟩
theorem UT.below {w x : World} (h : UT w) (hb : Below w.heap.size w x) : UT x := Utf8Tabs_below h hb
/-- What a check answers: nil, or an error. -/
def SaidE (ok : Bool) (w w' : World) (e : Ending) : Prop := (∃ r, e = .returned r ∧ (ok = true → r = .nilIface) ∧ (ok = false → IsErr r)) ∧ Below w.heap.size w w'

set_option maxHeartbeats 800000 in
set_option maxRecDepth 100000 in
theorem validVals (v : Value) (xs : List ByteArray) (n : Nat) (w : World) (hv : RdC Value.string w v xs) (hsz : ∀ x ∈ xs, x.size ≤ maxLen) (hn : n ≤ maxLen) (hT : UT w) (hE : EV w) :
    Calls Tryz.prog 49 #[v, .int .i64 (n : Int)] w fun e w' => SaidE (decide (xs.length = n) && xs.all vU) w w' e := by
  have HSZ := Lib.hid hsz
  have HT := Lib.hid hT
  obtain ⟨et, ex, hE⟩ := hE
  obtain ⟨p, cap, b, off, rfl, hcap, hmx, hp, hc⟩ := hv
  unfold maxLen at hmx hn
  have HC := Lib.hid hc
  clear hsz hT hc
  by_cases hl : xs.length = n
  · subst hl
    have hbe : ((xs.length : Int) != (xs.length : Int)) = false := by simp
    rw [decide_eq_true rfl, Bool.true_and]
    go_enter Tryz.func49, Tryz.ntmps49
    go_wp2_with fail
    go_loopw [14] (fun i wr => ∃ k : Nat, k ≤ xs.length ∧ i = .int .i64 (k : Int) ∧ Hid ((xs.take k).all vU = true) ∧ Below w.heap.size w wr) (fun i _ => xs.length - (intOf i).toNat)
    case atStart => exact ⟨0, Nat.zero_le _, rfl, Lib.hid rfl, Below.refl _ _⟩
    case round =>
      obtain ⟨k, hk, rfl, HALL, hbr⟩ := hrel
      by_cases hlt : k < xs.length
      · obtain rfl : p = some ⟨b, off, none⟩ := by
          rcases hp with h | h
          · rw [h] at hlt; exact absurd hlt (Nat.not_lt_zero _)
          · exact h
        have c1 := HC.out k xs[k] (List.getElem?_eq_getElem hlt)
        have c2 := (hbr.cell (p := ⟨b, off + k, none⟩) (World.block_lt_of_cell? w _ c1)).trans c1
        have hs := HSZ.out xs[k] (List.getElem_mem hlt)
        have HN : Hid (vU xs[k] = true → Hid ((xs.take (k + 1)).all vU = true)) := Lib.hid (fun h => Lib.hid (by rw [List.take_succ_eq_append_getElem hlt, List.all_append, HALL.out]; simp [h]))
        have HF : Hid (vU xs[k] = false → xs.all vU = false) := Lib.hid (fun h => by rw [List.all_eq_false]; exact ⟨xs[k], List.getElem_mem hlt, by rw [h]; simp⟩)
        clear c1
        generalize xs[k] = s at *
        have HV := Lib.hid (validStr s wr hs (HT.out.below hbr))
        cases hvs : vU s with
        | true =>
          rw [hvs] at HV HN
          have HN2 := HN.out rfl
          clear HN HF hvs
          go_wp2_with (go_at_call 59; go_must (refine HV.out.mono ?_))
          first | rintro e w2 rfl hb | rintro e w2 ⟨rfl, hb⟩
          have hb2 := hbr.trans (hb.mono hbr.size)
          go_wp2_with fail
          go_roundw
          case rel => exact ⟨k + 1, by omega, by go_num, HN2, hb2⟩
          case measure => simp [intOf]; omega
        | false =>
          rw [hvs] at HV HF
          have HF2 := Lib.hid (HF.out rfl)
          clear HN HF hvs
          go_wp2_with (go_at_call 59; go_must (refine HV.out.mono ?_))
          first | rintro e w2 rfl hb | rintro e w2 ⟨rfl, hb⟩
          have hb2 := hbr.trans (hb.mono hbr.size)
          go_wp2_with (go_at_call 60; go_must (refine (errNew _ _).mono ?_))
          rintro e w3 ⟨⟨r, rfl, hr⟩, hb3⟩
          have HR := Lib.hid hr
          have hb4 := hb2.trans (hb3.mono hb2.size)
          clear hr
          go_wp2_with fail
          go_ret
          exact ⟨⟨_, rfl, (by rw [HF2.out]; intro h; cases h), fun _ => HR.out⟩, hb4⟩
      · have HE : Hid (xs.all vU = true) := Lib.hid (by have := HALL.out; rwa [List.take_of_length_le (by omega)] at this)
        go_wp2_with fail
        go_ret
        exact ⟨⟨_, rfl, fun _ => rfl, (by rw [HE.out]; intro h; cases h)⟩, hbr⟩
  · have hbe : ((xs.length : Int) != (n : Int)) = true := by simp; omega
    rw [decide_eq_false hl, Bool.false_and]
    go_enter Tryz.func49, Tryz.ntmps49
    go_wp2_with fail
    go_ret
    exact ⟨⟨_, rfl, (fun h => by cases h), fun _ => ⟨_, _, rfl⟩⟩, Below.refl _ _⟩
end Go.Proofs.YtojlpfakdodnfaaGreatDoor
