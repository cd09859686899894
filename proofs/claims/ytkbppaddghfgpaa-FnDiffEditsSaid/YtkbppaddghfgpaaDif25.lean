/- The law FnDiffEdits. -/
import Derived.Test.YtkbppaddghfgpaaDif23
import Derived.Test.YtkbppaddghfgpaaDif24
import Derived.Test.YtkbppaddghfgpaaDif19
set_option linter.unusedVariables false
set_option linter.unusedSimpArgs false
namespace Go.Proofs.Ytkbppaddghfgpaa
open Go.RowKit Go.Maps

theorem Mt.next {e : Ed} {r : List Ed} {ms : List Tri} {k : Nat} (h : Mt (e :: r) (ms.drop k)) (ht : e.tag = 101) : ∃ h : k < ms.length, e.i1 = ms[k].1 ∧ e.i2 = ms[k].1 + ms[k].2.2 ∧ e.j1 = ms[k].2.1 ∧ Mt r (ms.drop (k + 1)) := by
  rcases h with ⟨h, _⟩ | ⟨_, m, q, hm, h1, h2, h3, h4⟩
  · exact absurd ht h
  · have hk : k < ms.length := by
      rcases Nat.lt_or_ge k ms.length with h | h
      · exact h
      · rw [List.drop_eq_nil_of_le h] at hm; cases hm
    rw [List.drop_eq_getElem_cons hk] at hm
    injection hm with e1 e2
    subst e1
    rw [← e2] at h4
    exact ⟨hk, h1, h2, h3, h4⟩
theorem Mt.skip {e : Ed} {r : List Ed} {ms : List Tri} (h : Mt (e :: r) ms) (ht : e.tag ≠ 101) : Mt r ms := by
  rcases h with ⟨_, h⟩ | ⟨h, _⟩
  · exact h
  · exact absurd h ht
theorem Mt.last {ms : List Tri} {k : Nat} (h : Mt [] (ms.drop k)) : k + 1 = ms.length := by
  have : (ms.drop k).length = 1 := h
  rw [List.length_drop] at this
  omega

def SaidF (es : List Ed) (w' : World) (e : Ending) : Prop := ∃ v, e = .returned v ∧ RdF w' v es

set_option maxHeartbeats 3200000 in
set_option maxRecDepth 100000 in
theorem editsLaw (v1 v2 : Value) (a b : List ByteArray) (w : World) (hv1 : RdC Value.string w v1 a) (hv2 : RdC Value.string w v2 b) (hsa : ∀ s ∈ a, s.size ≤ maxLen) (hsb : ∀ s ∈ b, s.size ≤ maxLen) :
    Calls Try.prog 6 #[v1, v2] w fun e w' => e = .returned (.bool true) ∧ Below w.heap.size w w' := by
  have HV1 := Lib.hid hv1
  have HV2 := Lib.hid hv2
  have HSA := Lib.hid hsa
  have HSB := Lib.hid hsb
  obtain ⟨x1, x3, _, _, rfl, hx⟩ := hv1
  obtain ⟨y1, y3, _, _, rfl, hy⟩ := hv2
  clear hx hy hsa hsb
  go_enter Try.func6, Try.ntmps6
  go_wp2_with (go_at_call 9; go_must (refine (fitsD _ a _ HV1.out HSA.out).mono ?_))
  rintro e w1 ⟨⟨b1, rfl, hf1⟩, rfl⟩
  cases b1 with
  | false =>
    clear hf1
    go_wp2_with fail
    go_ret
    exact ⟨rfl, Below.refl _ _⟩
  | true =>
    have hla := (hf1 rfl).1
    clear hf1
    go_wp2_with (go_at_call 9; go_must (refine (fitsD _ b _ HV2.out HSB.out).mono ?_))
    rintro e w1 ⟨⟨b2, rfl, hf2⟩, rfl⟩
    cases b2 with
    | false =>
      clear hf2
      go_wp2_with fail
      go_ret
      exact ⟨rfl, Below.refl _ _⟩
    | true =>
      have hlb := (hf2 rfl).1
      clear hf2
      have HL : Hid (∀ v j, j ∈ b2jL b v → b[j]? = some v) := Lib.hid (fun v j h => b2j_mem b h)
      have HC1 : Hid (Calls Try.prog 21 #[.slice x1 a.length x3, .slice y1 b.length y3] w fun e w' => SaidF (edits (gmb a b (b2jL b))) w' e ∧ Below w.heap.size w w') := Lib.hid (implEditsG _ _ a b w HV1.out HV2.out hla hlb HSA.out HSB.out)
      have hlt := edits_len (a := a) HL.out hla
      have HOK := Lib.hid (edits_right (a := a) HL.out)
      have HMT := Lib.hid (edits_matched (a := a) HL.out)
      have hml := (gmb_bound (a := a) HL.out).2
      go_wp2_with (go_at_call 21; go_must (refine HC1.out.mono ?_))
      rintro e w1 ⟨⟨ev, rfl, her⟩, hb1⟩
      have HER := Lib.hid her
      have hsh : ∃ p l c, ev = .slice p l c := by obtain ⟨p, c, _, _, h, _⟩ := her; exact ⟨p, _, c, h⟩
      clear her HC1
      obtain ⟨ep0, el0, ec0, rfl⟩ := hsh
      go_wp2_with (go_at_call 20; go_must (refine (editsFrom1 _ _ w1 HER.out hlt).mono ?_))
      rintro e w2 ⟨⟨fv, rfl, hfr⟩, hb2⟩
      have HFR := Lib.hid hfr
      have hsh : ∃ p l c, fv = .slice p l c := by obtain ⟨p, c, _, _, h, _⟩ := hfr; exact ⟨p, _, c, h⟩
      clear hfr HER
      obtain ⟨fp0, fl0, fc0, rfl⟩ := hsh
      have hb12 := hb1.trans (hb2.mono hb1.size)
      clear hb1 hb2
      have HC2 : Hid (Calls Try.prog 19 #[.slice x1 a.length x3, .slice y1 b.length y3] w2 fun e w' => SaidF ((gmb a b (b2jL b)).map blockEd) w' e ∧ Below w2.heap.size w2 w') := Lib.hid (implBlocksG _ _ a b w2 (HV1.out.below hb12) (HV2.out.below hb12) hla hlb HSA.out HSB.out)
      go_wp2_with (go_at_call 19; go_must (refine HC2.out.mono ?_))
      rintro e w3 ⟨⟨gv, rfl, hgr⟩, hb3⟩
      have hfr3 := HFR.out.below hb3
      have hb13 := hb12.trans (hb3.mono hb12.size)
      clear HC2 HFR hb12 hb3
      generalize edits (gmb a b (b2jL b)) = es at *
      generalize gmb a b (b2jL b) = ms at *
      have HFR := Lib.hid hfr3
      obtain ⟨gp, gcap, gb, goff, rfl, hgc, hgmx, hgp, hgcell⟩ := hgr
      obtain ⟨fp, fcap, fb, foff, hfe, hfc, hfmx, hfp, hfcell⟩ := hfr3
      injection hfe with he1 he2 he3
      subst he1 he2 he3
      rw [List.length_map] at hgc ⊢
      have HGC := Lib.hid hgcell
      have HFC := Lib.hid hfcell
      unfold maxLen at hgmx hfmx
      clear hgcell hfcell
      go_wp2_with fail
      go_loopw [7, 8] (fun v7 v8 wr => ∃ k t : Nat, v7 = .int .i64 (k : Int) ∧ v8 = .int .i64 (t : Int) ∧ t ≤ es.length ∧ k ≤ ms.length ∧ Hid (Mt (es.drop t) (ms.drop k)) ∧ Below w3.heap.size w3 wr) (fun _ v8 _ => es.length - (intOf v8).toNat)
      case atStart => exact ⟨0, 0, rfl, rfl, Nat.zero_le _, Nat.zero_le _, HMT, Below.refl _ _⟩
      case round =>
        obtain ⟨k, t, rfl, rfl, ht, hk, HM, hbr⟩ := hrel
        by_cases hlt' : t < es.length
        · have hlt2 : (t : Int) < (es.length : Int) := by omega
          obtain rfl : fp0 = some ⟨fb, foff, none⟩ := by
            rcases hfp with h | h
            · rw [h] at hlt'; exact absurd hlt' (Nat.not_lt_zero _)
            · exact h
          obtain ⟨c0, c1, c2, c3, c4⟩ := HFC.out t es[t] (List.getElem?_eq_getElem hlt')
          have hm := HM.out
          rw [List.drop_eq_getElem_cons hlt'] at hm
          have HM2 := Lib.hid hm
          clear hm HM
          generalize es[t] = tr at *
          obtain ⟨tg, i1, i2, j1, j2⟩ := tr
          simp only at c0 c1 c2 c3 c4
          have d0 := (hbr.cell (p := ⟨fb, foff + t * 5, none⟩) (World.block_lt_of_cell? w3 _ c0)).trans c0
          have d1 := (hbr.cell (p := ⟨fb, foff + t * 5 + 1, none⟩) (World.block_lt_of_cell? w3 _ c1)).trans c1
          have d2 := (hbr.cell (p := ⟨fb, foff + t * 5 + 2, none⟩) (World.block_lt_of_cell? w3 _ c2)).trans c2
          have d3 := (hbr.cell (p := ⟨fb, foff + t * 5 + 3, none⟩) (World.block_lt_of_cell? w3 _ c3)).trans c3
          clear c0 c1 c2 c3 c4
          by_cases htg : tg = 101
          · obtain ⟨hkl, h1, h2, h3, h4⟩ := HM2.out.next htg
            simp only at h1 h2 h3
            have HN := Lib.hid h4
            obtain rfl : gp = some ⟨gb, goff, none⟩ := by
              rcases hgp with h | h
              · have : ms = [] := by simpa using h
                rw [this] at hkl; exact absurd hkl (Nat.not_lt_zero _)
              · exact h
            obtain ⟨e0, e1, e2, e3, e4⟩ := HGC.out k (blockEd ms[k]) (by rw [List.getElem?_map, List.getElem?_eq_getElem hkl]; rfl)
            have f1 : wr.cell? ⟨gb, goff + k * 5 + 1, none⟩ = some (.int .i64 (i1 : Int)) := (hbr.cell (p := ⟨gb, goff + k * 5 + 1, none⟩) (World.block_lt_of_cell? w3 _ e1)).trans (by rw [e1, h1]; rfl)
            have f2 : wr.cell? ⟨gb, goff + k * 5 + 2, none⟩ = some (.int .i64 (i2 : Int)) := (hbr.cell (p := ⟨gb, goff + k * 5 + 2, none⟩) (World.block_lt_of_cell? w3 _ e2)).trans (by rw [e2, h2]; rfl)
            have f3 : wr.cell? ⟨gb, goff + k * 5 + 3, none⟩ = some (.int .i64 (j1 : Int)) := (hbr.cell (p := ⟨gb, goff + k * 5 + 3, none⟩) (World.block_lt_of_cell? w3 _ e3)).trans (by rw [e3, h3]; rfl)
            have htt : ((tg : Int) != 101) = false := by simp; omega
            have HTG := Lib.hid htg
            clear e0 e1 e2 e3 e4 h1 h2 h3 h4 htg
            have hkl2 : (k : Int) < (ms.length : Int) := by omega
            have g1 : decide ((ms.length : Int) ≤ (k : Int)) = false := by simp; omega
            have g2 : decide (ms.length ≤ k) = false := by simp; omega
            go_upto_region 10 with fail
            go_big_quiet (fail)
            have hb4 : Below w3.heap.size w3 (wr.drewN nq) := ⟨hbr.os, hbr.tape, hbr.output, hbr.size, hbr.block⟩
            go_wp2_with fail
            go_roundw
            case rel => exact ⟨k + 1, t + 1, by go_num, by go_num, by omega, by omega, HN, hb4⟩
            case measure => simp [intOf]; omega
          · have htt : ((tg : Int) != 101) = true := by simp; omega
            have HN := Lib.hid (HM2.out.skip htg)
            have HTG := Lib.hid htg
            clear htg
            go_wp2_with fail
            go_roundw
            case rel => exact ⟨k, t + 1, rfl, by go_num, by omega, by omega, HN, hbr⟩
            case measure => simp [intOf]; omega
        · have hnl : ¬ (t : Int) < (es.length : Int) := by omega
          have hm := HM.out
          rw [List.drop_eq_nil_of_le (by omega)] at hm
          have hkm := hm.last
          clear hm HM
          have hbf := hb13.trans (hbr.mono hb13.size)
          have hw1 : IntKind.i64.wrap ((ms.length : Int) - 1) = (k : Int) := (IntWalk.i64_in _ ⟨by omega, by omega⟩).trans (by omega)
          have HC3 : Hid (Calls Try.prog 22 #[.slice x1 a.length x3, .slice y1 b.length y3, .slice fp0 es.length fc0] wr fun e w' => e = .returned (.bool true) ∧ Below wr.heap.size wr w') := Lib.hid (editsRight _ _ _ es wr (HV1.out.below hbf) (HV2.out.below hbf) (HFR.out.below hbr) HOK.out hla hlb hlt)
          have HKM := Lib.hid hkm
          clear hkm
          go_wp2_with (go_at_call 22; go_must (refine HC3.out.mono ?_))
          rintro e w5 rfl hb5
          go_wp2_with (go_at_call 18; go_must (refine (diffAwake _).mono ?_))
          rintro e w6 ⟨rfl, hb6⟩
          go_wp2_with fail
          go_ret
          have hbf5 := hbf.trans (hb5.mono hbf.size)
          exact ⟨rfl, hbf5.trans (hb6.mono hbf5.size)⟩
theorem fnDiffEdits.walk0 (w : World) (v1 : Value) (a : List ByteArray) (h1 : RdC Value.string w v1 a ∧ ∀ x ∈ a, x.size ≤ maxLen) (v2 : Value) (b : List ByteArray) (h2 : RdC Value.string w v2 b ∧ ∀ x ∈ b, x.size ≤ maxLen) :
    Calls Try.prog 6 #[v1, v2] w fun e w' => e = .returned (.bool true) ∧ Below w.heap.size w w' := editsLaw v1 v2 a b w h1.1 h2.1 h1.2 h2.2
end Go.Proofs.Ytkbppaddghfgpaa
