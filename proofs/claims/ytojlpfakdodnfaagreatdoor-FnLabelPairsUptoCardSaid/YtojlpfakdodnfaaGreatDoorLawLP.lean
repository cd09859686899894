/- The law FnLabelPairs. -/
import Derived.Test.YtojlpfakdodnfaaGreatDoorLpd
import Derived.Test.YtojlpfakdodnfaaGreatDoorLbs
import Derived.Test.YtojlpfakdodnfaaGreatDoorAlk3a
import Derived.Test.YtojlpfakdodnfaaGreatDoorNameZ2
import Derived.Deep.RegionHeld3
set_option linter.unusedVariables false
set_option linter.unusedSimpArgs false
namespace Go.Proofs.YtojlpfakdodnfaaGreatDoor
open Go.RowKit

set_option maxHeartbeats 6400000 in
set_option maxRecDepth 100000 in
theorem labelPairsLaw (D : Dsc) (v1 v2 : Value) (vals : List ByteArray) (v3 : Value) (w : World) (hv1 : RdC Value.string w v1 D.vars) (hv2 : RdE w v2 D.cons) (hs : Small D) (hv3 : RdC Value.string w v3 vals) (hvl : vals.length ≤ 4194304) (hvs : ∀ x ∈ vals, x.size ≤ 4194304) (hV : Vars w) :
    Calls Tryz.prog 5 #[MetaV D.name D.help D.unit v1 v2, v3] w fun e w' => e = .returned (.bool true) ∧ Below w.heap.size w w' := by
  have hM := heap_alloc_new w (.cells #[.string D.name, .string D.help, .string D.unit, v1, v2] 25)
  have hbw := (Below.refl _ w).alloc (Nat.le_refl _) (.cells #[.string D.name, .string D.help, .string D.unit, v1, v2] 25)
  have HV1 := Lib.hid hv1
  have HV2 := Lib.hid hv2
  have HV3 := Lib.hid hv3
  have HS := Lib.hid hs
  have HVS := Lib.hid hV
  have HVZ := Lib.hid hvs
  have HVN := Lib.hid hvl
  obtain ⟨p1, c1, b1, o1, rfl, _⟩ := hv1
  obtain ⟨p2, c2, b2, o2, rfl, _⟩ := hv2
  obtain ⟨p3, c3, rfl⟩ : ∃ a c, v3 = .slice a vals.length c := by
    obtain ⟨a, c, _, _, rfl, _⟩ := hv3
    exact ⟨a, c, rfl⟩
  clear hs hV hvs hv3 hvl
  go_enter Tryz.func5, Tryz.ntmps5
  go_upto_region 1 with fail
  generalize (w.alloc (.cells #[.string D.name, .string D.help, .string D.unit, .slice p1 D.vars.length c1, .slice p2 D.cons.length c2] 25)) = w1 at *
  have HBW := Lib.hid hbw
  have KS : Hid (∀ x, TB w1 x → (x.cell? ⟨w.heap.size, 0, none⟩ = some (.string D.name) ∧ x.cell? ⟨w.heap.size, 1, none⟩ = some (.string D.help) ∧ x.cell? ⟨w.heap.size, 2, none⟩ = some (.string D.unit) ∧ x.cell? ⟨w.heap.size, 3, none⟩ = some (.slice p1 D.vars.length c1) ∧ x.cell? ⟨w.heap.size, 4, none⟩ = some (.slice p2 D.cons.length c2))) := Lib.hid (fun x hx => by
    have h := (Chg.of_below hx Non).obj hM (fun h => h)
    refine ⟨?_, ?_, ?_, ?_, ?_⟩ <;> (rw [Lib.cell_of_heap h]; rfl))
  have HT : Hid (∀ x, TB w1 x → Below w.heap.size w x) := Lib.hid (fun x hx => HBW.out.trans (Below.mono hx HBW.out.size))
  have HF4 : Hid (∀ x, TB w1 x → Calls Tryz.prog 7 #[MetaV D.name D.help D.unit (.slice p1 D.vars.length c1) (.slice p2 D.cons.length c2)] x fun e w' => e = .returned (.bool true) ∧ Stp x w') := Lib.hid (fun x hx => fits4 _ _ _ _ _ D.vars D.cons x HS.out.name HS.out.help HS.out.unit (HV1.out.below (HT.out x hx)) HS.out.nv HS.out.vars (HV2.out.below (HT.out x hx)) HS.out.nc HS.out.cons)
  have HF3 : Hid (∀ x, TB w1 x → Calls Tryz.prog 15 #[.slice p3 vals.length c3] x fun e w' => e = .returned (.bool true) ∧ x = w') := Lib.hid (fun x hx => fits3 _ vals x (HV3.out.below (HT.out x hx)) HVN.out HVZ.out)
  have HYM : Hid (∀ x, TB w1 x → Calls Tryz.prog 12 #[MetaV D.name D.help D.unit (.slice p1 D.vars.length c1) (.slice p2 D.cons.length c2)] x fun e w' => SaidB (SayOk D) x w' e) := Lib.hid (fun x hx => sayK D _ _ x (HV1.out.below (HT.out x hx)) (HV2.out.below (HT.out x hx)) HS.out.nv HS.out.nc ⟨HS.out.name, HS.out.help⟩ HS.out.vars HS.out.cons)
  have HYV : Hid (∀ x, TB w1 x → Calls Tryz.prog 16 #[MetaV D.name D.help D.unit (.slice p1 D.vars.length c1) (.slice p2 D.cons.length c2), .slice p3 vals.length c3] x fun e w' => SaidB ((∀ x ∈ vals, prnS x = true) ∧ vals.length = D.vars.length) x w' e) := Lib.hid (fun x hx => sayVals D _ _ _ vals x (HV1.out.below (HT.out x hx)) (HV2.out.below (HT.out x hx)) (HV3.out.below (HT.out x hx)) HVZ.out)
  have HMD : Hid (∀ x, TB w1 x → Calls Tryz.prog 10 #[MetaV D.name D.help D.unit (.slice p1 D.vars.length c1) (.slice p2 D.cons.length c2)] x fun e w' => SaidMeta D x w' e) := Lib.hid (fun x hx => metaToK D _ _ x (HV1.out.below (HT.out x hx)) (HV2.out.below (HT.out x hx)) HS.out.nv HS.out.nc)
  have HLV : Hid (∀ x, Calls Tryz.prog 11 #[] x fun e w' => e = .returned (.bool true) ∧ Stp x w') := Lib.hid (fun x => lives x)
  clear hM hbw
  obtain ⟨m0, m1, m2, m3, m4⟩ := KS.out _ (TB.refl w1)
  go_wp2_with (go_at_call 7; go_must (refine (HF4.out _ (TB.refl _)).mono ?_))
  first | rintro e w2 rfl hb2 | rintro e w2 ⟨rfl, hb2⟩
  have ht2 : TB w1 w2 := hb2
  clear m0 m1 m2 m3 m4 hb2
  obtain ⟨m0, m1, m2, m3, m4⟩ := KS.out _ ht2
  have HF3' := Lib.hid (HF3.out _ ht2)
  go_wp2_with (first
    | (go_at_call 15; go_must (refine HF3'.out.mono ?_); first | rintro e w5 rfl rfl | rintro e w5 ⟨rfl, rfl⟩)
    | (go_at_call 12; go_must (refine (HYM.out _ ht2).mono ?_)))
  rintro e w4 ⟨⟨ba, rfl, hba⟩, hb4⟩
  have ht4 : TB w1 w4 := TB.stp hb4 ht2
  clear m0 m1 m2 m3 m4 hb4 ht2 HF3'
  cases ba with
  | false =>
    clear hba
    go_wp2_with (go_at_call 11; go_must (refine (HLV.out _).mono ?_))
    first | rintro e w7 rfl hb7 | rintro e w7 ⟨rfl, hb7⟩
    go_wp2_with fail
    go_ret
    exact ⟨rfl, HT.out _ (TB.stp hb7 ht4)⟩
  | true =>
  have HSAY := Lib.hid (hba rfl)
  clear hba
  obtain ⟨m0, m1, m2, m3, m4⟩ := KS.out _ ht4
  go_wp2_with (go_at_call 16; go_must (refine (HYV.out _ ht4).mono ?_))
  rintro e w5 ⟨⟨bb, rfl, hbb⟩, hb5⟩
  have ht5 : TB w1 w5 := TB.stp hb5 ht4
  clear m0 m1 m2 m3 m4 hb5 ht4
  cases bb with
  | false =>
    clear hbb
    go_wp2_with (go_at_call 11; go_must (refine (HLV.out _).mono ?_))
    first | rintro e w7 rfl hb7 | rintro e w7 ⟨rfl, hb7⟩
    go_wp2_with fail
    go_ret
    exact ⟨rfl, HT.out _ (TB.stp hb7 ht5)⟩
  | true =>
  have HSV := Lib.hid (hbb rfl)
  clear hbb
  have HLP : Hid (∀ x v1 v2, TB w1 x → KC x v1 D.vars → KE x v2 D.cons → Calls Tryz.prog 17 #[MetaV D.name D.help D.unit v1 v2, .slice p3 vals.length c3] x fun e w' => SaidLE (labelsOf D vals) x w' e) := Lib.hid (fun x v1 v2 hx h1 h2 => labelPairsK D v1 v2 _ vals x h1.rd h2.rd (HV3.out.below (HT.out x hx)) HS.out (HVS.out.below (HT.out x hx)) HSAY.out.desc HSV.out.2 (List.all_eq_true.2 fun y hy => vU_prn (HSV.out.1 y hy)) (fun y hy => by have := HVZ.out y hy; unfold maxLen; omega))
  have HLB : Hid (∀ x, TB w1 x → Calls Tryz.prog 20 #[MetaV D.name D.help D.unit (.slice p1 D.vars.length c1) (.slice p2 D.cons.length c2), .slice p3 vals.length c3] x fun e w' => SaidP (labelsOf D vals) x w' e) := Lib.hid (fun x hx => labelsSpec D _ _ _ vals x (HV1.out.below (HT.out x hx)) (HV2.out.below (HT.out x hx)) (HV3.out.below (HT.out x hx)) HSV.out.2 HS.out.sum)
  have HLN : Hid ((labelsOf D vals).length ≤ 8388608) := Lib.hid (by have := labels_len HSV.out.2; have := HS.out.sum; omega)
  generalize labelsOf D vals = LO at *
  have HPF : Hid (∀ x v, KE x v LO → Calls Tryz.prog 19 #[v] x fun e w' => SaidP LO x w' e) := Lib.hid (fun x v h => (pairsFromK v LO x h.rd HLN.out).mono fun e w' ⟨⟨u, h1, h2⟩, h3⟩ => ⟨⟨u, h1, RdE.of_owns h2⟩, h3⟩)
  have HSP : Hid (∀ x v u, KE x v LO → KE x u LO → Calls Tryz.prog 18 #[v, u] x fun e w' => e = .returned (.bool true) ∧ Stp x w') := Lib.hid (fun x v u h1 h2 => samePairsT v u LO x h1.rd h2.rd)
  clear HF4 HF3 HYM HYV
  obtain ⟨m0, m1, m2, m3, m4⟩ := KS.out _ ht5
  go_wp2_with (go_at_call 10; go_must (refine (HMD.out _ ht5).mono ?_))
  rintro e w6 ⟨⟨x1, x2, rfl, h1, h2⟩, hb6⟩
  have ht6 : TB w1 w6 := TB.stp hb6 ht5
  have HLP6 := Lib.hid (HLP.out w6 x1 x2 ht6 ⟨h1⟩ ⟨h2⟩)
  clear m0 m1 m2 m3 m4 hb6 ht5 h1 h2
  go_wp2_with (go_at_call 17; go_must (refine HLP6.out.mono ?_))
  rintro e w7 ⟨⟨gv, rfl, hg⟩, hb7⟩
  have ht7 : TB w1 w7 := TB.stp hb7 ht6
  have kg := KE.mk hg
  obtain ⟨ga, gc, rfl⟩ := hg.shape
  clear hb7 ht6 hg HLP6 HLP HMD
  go_upto_region 6 with fail
  go_region_held3 (fun x => x.cell? ⟨w.heap.size, 0, none⟩ = some (.string D.name) ∧ x.cell? ⟨w.heap.size, 1, none⟩ = some (.string D.help) ∧ x.cell? ⟨w.heap.size, 2, none⟩ = some (.string D.unit) ∧ x.cell? ⟨w.heap.size, 3, none⟩ = some (.slice p1 D.vars.length c1) ∧ x.cell? ⟨w.heap.size, 4, none⟩ = some (.slice p2 D.cons.length c2))
      (exact KS.out _ (by repeat (first | assumption | apply TB.drew | refine TB.stp (by assumption) ?_)))
      (first
        | (go_at_call 19
           refine (HPF.out _ _ (by repeat (first | assumption | apply KE.drew | refine KE.stp (by assumption) ?_))).mono ?_
           rintro e wt ⟨⟨x3, rfl, h3⟩, hbt⟩
           have hst : Stp _ wt := hbt
           have k3 := KE.mk h3
           clear hbt h3)
        | (go_at_call 20
           refine (HLB.out _ (by repeat (first | assumption | apply TB.drew | refine TB.stp (by assumption) ?_))).mono ?_
           rintro e wt ⟨⟨x3, rfl, h3⟩, hbt⟩
           have hst : Stp _ wt := hbt
           have k3 := KE.mk h3
           clear hbt h3)
        | (go_at_call 18
           refine (HSP.out _ _ _ (by repeat (first | assumption | apply KE.drew | refine KE.stp (by assumption) ?_)) (by repeat (first | assumption | apply KE.drew | refine KE.stp (by assumption) ?_))).mono ?_
           rintro e wt ⟨rfl, hst⟩)
        | (go_at_call 11
           refine (HLV.out _).mono ?_
           rintro e wt ⟨rfl, hst⟩))
  all_goals go_wp2_with fail
  all_goals go_ret
  all_goals exact ⟨rfl, HT.out _ (by repeat (first | assumption | apply TB.drew | refine TB.stp (by assumption) ?_))⟩
end Go.Proofs.YtojlpfakdodnfaaGreatDoor
