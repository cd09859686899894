/- The law FnDiffBlocks. -/
import Derived.Test.YtkbppaddghfgpaaDif17
set_option linter.unusedVariables false
set_option linter.unusedSimpArgs false
namespace Go.Proofs.Ytkbppaddghfgpaa
open Go.RowKit Go.Maps

set_option maxHeartbeats 3200000 in
set_option maxRecDepth 100000 in
theorem specNo {a b : List ByteArray} (v1 v2 : Value) (w : World) (hv1 : RdC Value.string w v1 a) (hv2 : RdC Value.string w v2 b) (h40 : ¬ (a.length ≤ 40 ∧ b.length ≤ 40)) :
    Calls Try.prog 17 #[v1, v2] w fun e w' => e = .returned (.tuple #[.slice none 0 0, .bool false]) ∧ w' = w := by
  obtain ⟨x1, x3, _, _, rfl, hx⟩ := hv1
  obtain ⟨y1, y3, _, _, rfl, hy⟩ := hv2
  clear hx hy
  by_cases ha : 40 < a.length
  · have n1 : (40 : Int) < (a.length : Int) := by omega
    go_enter Try.func17, Try.ntmps17
    go_wp2_with fail
    go_ret2
    exact ⟨rfl, rfl⟩
  · have n1 : ¬ (40 : Int) < (a.length : Int) := by omega
    have n2 : (40 : Int) < (b.length : Int) := by omega
    go_enter Try.func17, Try.ntmps17
    go_wp2_with fail
    go_ret2
    exact ⟨rfl, rfl⟩
def SaidWant (ms : List Tri) (w' : World) (e : Ending) : Prop := ∃ v, e = .returned (.tuple #[v, .bool true]) ∧ RdT w' v ms
def SaidGot (es : List Ed) (w' : World) (e : Ending) : Prop := ∃ v, e = .returned v ∧ RdF w' v es

set_option maxHeartbeats 3200000 in
set_option maxRecDepth 100000 in
theorem blocksLaw (v1 v2 : Value) (a b : List ByteArray) (w : World) (hv1 : RdC Value.string w v1 a) (hv2 : RdC Value.string w v2 b) (hsa : ∀ s ∈ a, s.size ≤ maxLen) (hsb : ∀ s ∈ b, s.size ≤ maxLen) :
    Calls Try.prog 5 #[v1, v2] w fun e w' => e = .returned (.bool true) ∧ Below w.heap.size w w' := by
  have HV1 := Lib.hid hv1
  have HV2 := Lib.hid hv2
  have HSA := Lib.hid hsa
  have HSB := Lib.hid hsb
  obtain ⟨x1, x3, _, _, rfl, hx⟩ := hv1
  obtain ⟨y1, y3, _, _, rfl, hy⟩ := hv2
  clear hx hy hsa hsb
  go_enter Try.func5, Try.ntmps5
  go_wp2_with (go_at_call 9; go_must (refine (fitsD _ a _ HV1.out HSA.out).mono ?_))
  rintro e w1 ⟨⟨b1, rfl, hf1⟩, rfl⟩
  clear hf1
  cases b1 with
  | false =>
    go_wp2_with fail
    go_ret
    exact ⟨rfl, Below.refl _ _⟩
  | true =>
    go_wp2_with (go_at_call 9; go_must (refine (fitsD _ b _ HV2.out HSB.out).mono ?_))
    rintro e w1 ⟨⟨b2, rfl, hf2⟩, rfl⟩
    clear hf2
    cases b2 with
    | false =>
      go_wp2_with fail
      go_ret
      exact ⟨rfl, Below.refl _ _⟩
    | true =>
      by_cases h40 : a.length ≤ 40 ∧ b.length ≤ 40
      · have HC1 : Hid (Calls Try.prog 17 #[.slice x1 a.length x3, .slice y1 b.length y3] w fun e w' => SaidWant (gmb a b (idxL b)) w' e ∧ Below w.heap.size w w') := Lib.hid (specBlocks _ _ w HV1.out HV2.out h40)
        have hbnd := gmb_bound (a := a) (b := b) (L := idxL b) (fun v j h => (mem_idx b).1 h)
        obtain ⟨hbd, hml⟩ := hbnd
        have HBD := Lib.hid hbd
        obtain ⟨ha40, hb40⟩ := h40
        clear hbd
        go_wp2_with (go_at_call 17; go_must (refine HC1.out.mono ?_))
        rintro e w1 ⟨⟨wv, rfl, hwr⟩, hb1⟩
        have HC2 : Hid (Calls Try.prog 19 #[.slice x1 a.length x3, .slice y1 b.length y3] w1 fun e w' => SaidGot ((gmb a b (idxL b)).map blockEd) w' e ∧ Below w1.heap.size w1 w') := Lib.hid (implBlocks _ _ a b w1 (HV1.out.below hb1) (HV2.out.below hb1) (by omega) (by omega) HSA.out HSB.out (by omega))
        have HWR := Lib.hid hwr
        have hsh : ∃ p l c, wv = .slice p l c := by obtain ⟨p, c, _, _, h, _⟩ := hwr; exact ⟨p, _, c, h⟩
        clear hwr
        obtain ⟨wp, wl, wc0, rfl⟩ := hsh
        clear HC1
        go_wp2_with (go_at_call 19; go_must (refine HC2.out.mono ?_))
        rintro e w2 ⟨⟨gv, rfl, hgr⟩, hb2⟩
        have hwr2 := HWR.out.below hb2
        have hb12 := hb1.trans (hb2.mono hb1.size)
        clear HC2 HWR hb1 hb2
        generalize gmb a b (idxL b) = ms at *
        obtain ⟨gp, gcap, gb, goff, rfl, hgc, hgmx, hgp, hgcell⟩ := hgr
        obtain ⟨wp', wcap, wb, woff, hwe, hwc, hwmx, hwp, hwcell⟩ := hwr2
        injection hwe with he1 he2 he3
        subst he1 he2 he3
        rw [List.length_map] at hgc ⊢
        have HGC := Lib.hid hgcell
        have HWC := Lib.hid hwcell
        unfold maxLen at hgmx hwmx
        clear hgcell hwcell
        go_wp2_with fail
        go_loopw [8] (fun v8 wr => ∃ t : Nat, t ≤ ms.length ∧ v8 = .int .i64 (t : Int) ∧ Below w2.heap.size w2 wr) (fun v8 _ => ms.length - (intOf v8).toNat)
        case atStart => exact ⟨0, Nat.zero_le _, rfl, Below.refl _ _⟩
        case round =>
          obtain ⟨t, ht, rfl, hbr⟩ := hrel
          by_cases hlt : t < ms.length
          · have hlt' : (t : Int) < (ms.length : Int) := by omega
            obtain rfl : wp = some ⟨wb, woff, none⟩ := by
              rcases hwp with h | h
              · rw [h] at hlt; exact absurd hlt (Nat.not_lt_zero _)
              · exact h
            obtain rfl : gp = some ⟨gb, goff, none⟩ := by
              rcases hgp with h | h
              · simp at h; rw [h] at hlt; exact absurd hlt (Nat.not_lt_zero _)
              · exact h
            obtain ⟨c1, c2, c3⟩ := HWC.out t ms[t] (List.getElem?_eq_getElem hlt)
            obtain ⟨e0, e1, e2, e3, e4⟩ := HGC.out t (blockEd ms[t]) (by rw [List.getElem?_map, List.getElem?_eq_getElem hlt]; rfl)
            have hbd := HBD.out ms[t] (List.getElem_mem hlt)
            generalize ms[t] = tr at *
            obtain ⟨i2, j2, k2⟩ := tr
            simp only [blockEd] at c1 c2 c3 e0 e1 e2 e3 e4 hbd
            have d1 := (hbr.cell (p := ⟨wb, woff + t * 3, none⟩) (World.block_lt_of_cell? w2 _ c1)).trans c1
            have d2 := (hbr.cell (p := ⟨wb, woff + t * 3 + 1, none⟩) (World.block_lt_of_cell? w2 _ c2)).trans c2
            have d3 := (hbr.cell (p := ⟨wb, woff + t * 3 + 2, none⟩) (World.block_lt_of_cell? w2 _ c3)).trans c3
            have f1 := (hbr.cell (p := ⟨gb, goff + t * 5 + 1, none⟩) (World.block_lt_of_cell? w2 _ e1)).trans e1
            have f2 : wr.cell? ⟨gb, goff + t * 5 + 2, none⟩ = some (.int .i64 ((i2 : Int) + (k2 : Int))) := (hbr.cell (p := ⟨gb, goff + t * 5 + 2, none⟩) (World.block_lt_of_cell? w2 _ e2)).trans e2
            have f3 := (hbr.cell (p := ⟨gb, goff + t * 5 + 3, none⟩) (World.block_lt_of_cell? w2 _ e3)).trans e3
            have hw1 : IntKind.i64.wrap ((i2 : Int) + (k2 : Int)) = (i2 : Int) + (k2 : Int) := IntWalk.i64_in _ ⟨by omega, by omega⟩
            clear c1 c2 c3 e0 e1 e2 e3 e4
            go_upto_region 13 with fail
            go_quiet (fail)
            have hb3 : Below w2.heap.size w2 (wr.drewN nq) := ⟨hbr.os, hbr.tape, hbr.output, hbr.size, hbr.block⟩
            go_wp2_with fail
            go_roundw
            case rel => exact ⟨t + 1, by omega, by go_num, hb3⟩
            case measure => simp [intOf]; omega
          · have hbf := hb12.trans (hbr.mono hb12.size)
            have hnl : ¬ (t : Int) < (ms.length : Int) := by omega
            go_wp2_with (go_at_call 18; go_must (refine (diffAwake _).mono ?_))
            rintro e w5 rfl hb5
            go_wp2_with fail
            go_ret
            exact ⟨rfl, hbf.trans (hb5.mono hbf.size)⟩
      · have HC1 := Lib.hid (specNo _ _ w HV1.out HV2.out h40)
        clear h40
        go_wp2_with (go_at_call 17; go_must (refine HC1.out.mono ?_))
        rintro e w1 ⟨rfl, rfl⟩
        go_wp2_with (go_at_call 18; go_must (refine (diffAwake _).mono ?_))
        rintro e w5 ⟨rfl, hb5⟩
        go_wp2_with fail
        go_ret
        exact ⟨rfl, hb5⟩
end Go.Proofs.Ytkbppaddghfgpaa
