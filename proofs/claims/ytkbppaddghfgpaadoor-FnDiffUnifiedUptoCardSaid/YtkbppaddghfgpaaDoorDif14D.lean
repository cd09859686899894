/- impl.Edits, diffAwake; the reference's rows and longest blocks. -/
import Derived.Test.YtkbppaddghfgpaaDoorDif13D
set_option linter.unusedVariables false
set_option linter.unusedSimpArgs false
namespace Go.Proofs.YtkbppaddghfgpaaDoor
open Go.RowKit Go.Maps

def OnlyIfD (Q : Prop) (e : Ending) : Prop := ∃ b, e = .returned (.bool b) ∧ (b = true → Q)

set_option maxHeartbeats 800000 in
set_option maxRecDepth 100000 in
theorem fitsD (v : Value) (xs : List ByteArray) (w : World) (hv : RdC Value.string w v xs) (hsz : ∀ x ∈ xs, x.size ≤ maxLen) :
    Calls Tryd.prog 4 #[v] w fun e w' => OnlyIfD (xs.length ≤ 2147483647 ∧ ∀ x ∈ xs, x.size ≤ 2147483647) e ∧ w = w' := by
  have HSZ := Lib.hid hsz
  clear hsz
  by_cases hl : xs.length ≤ 2147483647
  · obtain ⟨a, cap, b, off, rfl, hcap, hmx, ha, hc⟩ := hv
    unfold maxLen at hmx
    go_enter Tryd.func4, Tryd.ntmps4
    go_wp2_with fail
    go_loop [10] (fun i => ∃ k : Nat, k ≤ xs.length ∧ i = .int .i64 k ∧ (∀ x ∈ xs.take k, x.size ≤ 2147483647)) (fun i => xs.length - (intOf i).toNat)
    case atStart => exact ⟨0, Nat.zero_le _, rfl, by simp⟩
    case round =>
      obtain ⟨k, hk, rfl, hall⟩ := hrel
      have HALL := Lib.hid hall
      clear hall
      by_cases hlt : k < xs.length
      · obtain rfl : a = some ⟨b, off, none⟩ := by
          rcases ha with h | h
          · rw [h] at hlt; exact absurd hlt (Nat.not_lt_zero _)
          · exact h
        have c1 := hc k xs[k] (List.getElem?_eq_getElem hlt)
        have hm1 := HSZ.out xs[k] (List.getElem_mem _)
        have HN : Hid (∀ (q : xs[k].size ≤ 2147483647), ∀ x ∈ xs.take (k + 1), x.size ≤ 2147483647) := Lib.hid (fun q x hx => by
          rw [List.take_succ_eq_append_getElem hlt] at hx
          rcases List.mem_append.1 hx with hx | hx
          · exact HALL.out x hx
          · simp only [List.mem_singleton] at hx; rw [hx]; exact q)
        unfold maxLen at hm1
        clear hc
        generalize xs[k] = y at *
        by_cases hy : y.size ≤ 2147483647
        · go_wp2_with fail
          go_round
          case rel => exact ⟨k + 1, by omega, by go_num, HN.out hy⟩
          case measure => simp [intOf]; omega
        · go_wp2_with fail
          go_ret
          exact ⟨⟨_, rfl, fun h => by cases h⟩, rfl⟩
      · rw [List.take_of_length_le (by omega)] at HALL
        go_wp2_with fail
        go_ret
        exact ⟨⟨_, rfl, fun _ => HALL.out⟩, rfl⟩
  · obtain ⟨a, cap, b, off, rfl, hcap, hmx, ha, hc⟩ := hv
    unfold maxLen at hmx
    go_enter Tryd.func4, Tryd.ntmps4
    go_wp2_with fail
    go_ret
    exact ⟨⟨_, rfl, fun h => by cases h⟩, rfl⟩

theorem edits_len {a b : List ByteArray} {L : ByteArray → List Nat} (hL : ∀ v j, j ∈ L v → b[j]? = some v) (hla : a.length ≤ 2147483647) : (edits (gmb a b L)).length ≤ 8589934592 := by
  obtain ⟨h1, h2⟩ := gmb_bound (a := a) hL
  have h3 := (op_ok (la := a.length) (lb := b.length) (gmb a b L) h1 ([], 0, 0) (Nat.zero_le _) (Nat.zero_le _)).2.2
  rw [List.length_nil, Nat.zero_add] at h3
  unfold edits
  omega

set_option maxHeartbeats 3200000 in
set_option maxRecDepth 100000 in
theorem implEdits (v1 v2 : Value) (a b : List ByteArray) (w : World) (hv1 : RdC Value.string w v1 a) (hv2 : RdC Value.string w v2 b)
    (hla : a.length ≤ 2147483647) (hlb : b.length ≤ 2147483647) (hsa : ∀ s ∈ a, s.size ≤ maxLen) (hsb : ∀ s ∈ b, s.size ≤ maxLen) (hsm : b.length < 200) :
    Calls Tryd.prog 10 #[v1, v2] w fun e w' => (∃ v, e = .returned v ∧ RdF w' v (edits (gmb a b (idxL b)))) ∧ Below w.heap.size w w' := by
  have HSA := Lib.hid hsa
  have HSB := Lib.hid hsb
  have HV1 := Lib.hid hv1
  have HV2 := Lib.hid hv2
  clear hsa hsb hv1 hv2
  go_enter Tryd.func10, Tryd.ntmps10
  go_wp2_with (go_at_call 17; go_must (refine (newMatcher v1 v2 a b w HV1.out HV2.out hlb HSB.out hsm).mono ?_))
  rintro e w1 ⟨rfl, hC⟩
  have hb1 := hC.1
  obtain ⟨L, hm0, hL, hL2⟩ := hC.mem0 (HV1.out.below hb1) (HV2.out.below hb1)
  have hLe : L = idxL b := funext (hL2 hsm)
  subst hLe
  have HM := Lib.hid hm0
  have HL := Lib.hid hL
  clear hC hm0 hL hL2
  go_wp2_with (go_at_call 18; go_must (refine (opCodes_any w1 HM.out HL.out hla hlb HSA.out HSB.out).mono ?_))
  rintro e w2 ⟨⟨ov, rfl, hrd⟩, hb2⟩
  have hb12 := hb1.trans hb2
  have HRD := Lib.hid hrd
  have hlen := edits_len (a := a) HL.out hla
  have hsh : ∃ a l c, ov = .slice a l c := by obtain ⟨x, y, _, _, h, _⟩ := hrd; exact ⟨x, _, y, h⟩
  clear hrd hb1 hb2
  go_wp2_with (go_at_call 16; go_must (refine (implEdits1 ov _ w2 HRD.out hlen).mono ?_))
  rintro e w3 ⟨⟨v, rfl, hr⟩, hb3⟩
  have HR := Lib.hid hr
  clear hr
  go_wp2_with fail
  go_ret
  exact ⟨⟨_, rfl, HR.out⟩, hb12.trans (hb3.mono hb12.size)⟩

def oneA : ByteArray := ⟨#[97]⟩
def oneB : ByteArray := ⟨#[98]⟩
theorem awake_edits : edits (gmb [oneA] [oneB] (idxL [oneB])) = [⟨114, 0, 1, 0, 1⟩] := by rfl
theorem one_str {w : World} {g : Nat} {x : ByteArray} (h0 : w.cell? ⟨g, 0, none⟩ = some (.string x)) : RdC Value.string w (.slice (some ⟨g, 0, none⟩) 1 1) [x] := by
  refine ⟨_, 1, g, 0, rfl, Nat.le_refl _, by unfold maxLen; omega, .inr rfl, fun i z hz => ?_⟩
  match i, hz with
  | 0, hz => simp at hz; subst hz; exact h0

set_option maxHeartbeats 3200000 in
set_option maxRecDepth 100000 in
theorem diffAwake (w : World) : Calls Tryd.prog 6 #[] w fun e w' => e = .returned (.bool true) ∧ Below w.heap.size w w' := by
  go_enter Tryd.func6, Tryd.ntmps6
  have HA : RdC Value.string ((w.alloc (.cells #[.string oneA] 9)).alloc (.cells #[.string oneB] 9)) (.slice (some ⟨w.heap.size, 0, none⟩) 1 1) [oneA] := one_str (by simp)
  have HB : RdC Value.string ((w.alloc (.cells #[.string oneA] 9)).alloc (.cells #[.string oneB] 9)) (.slice (some ⟨w.heap.size + 1, 0, none⟩) 1 1) [oneB] := one_str (by simp)
  have HA2 := Lib.hid HA
  have HB2 := Lib.hid HB
  clear HA HB
  go_wp2_with (go_at_call 10; go_must (refine (implEdits _ _ [oneA] [oneB] _ HA2.out HB2.out (by decide) (by decide) (by intro s hs; simp at hs; subst hs; decide) (by intro s hs; simp at hs; subst hs; decide) (by decide)).mono ?_))
  rintro e w1 ⟨⟨v, rfl, hrd⟩, hb1⟩
  rw [awake_edits] at hrd
  obtain ⟨a, cap, b, off, rfl, hcap, hmx, ha, hc⟩ := hrd
  obtain rfl : a = some ⟨b, off, none⟩ := by
    rcases ha with h | h
    · exact absurd h (by simp)
    · exact h
  have c0 := (hc 0 _ rfl).1
  simp only [Nat.zero_mul, Nat.add_zero] at c0
  clear hc HA2 HB2
  go_wp2_with fail
  go_ret
  exact ⟨rfl, (((Below.refl _ w).alloc (Nat.le_refl _) _).alloc (by simp) _).trans (hb1.mono (by simp; omega))⟩
end Go.Proofs.YtkbppaddghfgpaaDoor
