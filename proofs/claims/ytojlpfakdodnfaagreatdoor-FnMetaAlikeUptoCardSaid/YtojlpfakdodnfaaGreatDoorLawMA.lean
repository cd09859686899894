/- The law FnMetaAlike. -/
import Derived.Test.YtojlpfakdodnfaaGreatDoorAlk2
import Derived.Test.YtojlpfakdodnfaaGreatDoorAlk3
import Derived.Test.YtojlpfakdodnfaaGreatDoorNameZ2
set_option linter.unusedVariables false
set_option linter.unusedSimpArgs false
namespace Go.Proofs.YtojlpfakdodnfaaGreatDoor
open Go.RowKit

theorem alike_dec {A B : Dsc} (hA : SayOk A) (hB : SayOk B) : decide (dimT A = dimT B) = alikeB A B := by
  cases h : alikeB A B with
  | true => exact decide_eq_true ((alike_iff hA hB).2 h)
  | false => exact decide_eq_false fun k => by rw [(alike_iff hA hB).1 k] at h; cases h
set_option maxHeartbeats 12800000 in
set_option maxRecDepth 100000 in
theorem metaAlikeLaw (A : Dsc) (v1 v2 : Value) (B : Dsc) (v3 v4 : Value) (w : World) (ha1 : RdC Value.string w v1 A.vars) (ha2 : RdE w v2 A.cons) (hsA : Small A) (hb1 : RdC Value.string w v3 B.vars) (hb2 : RdE w v4 B.cons) (hsB : Small B) (hV : Vars w) :
    Calls Tryz.prog 4 #[MetaV A.name A.help A.unit v1 v2, MetaV B.name B.help B.unit v3 v4] w fun e w' => e = .returned (.bool true) ∧ Below w.heap.size w w' := by
  have hA := (Below.heap_alloc (w.alloc (.cells #[.string A.name, .string A.help, .string A.unit, v1, v2] 25)) (.cells #[.string B.name, .string B.help, .string B.unit, v3, v4] 25) w.heap.size (by simp)).trans (heap_alloc_new w (.cells #[.string A.name, .string A.help, .string A.unit, v1, v2] 25))
  have hZ := heap_alloc2_new w (.cells #[.string A.name, .string A.help, .string A.unit, v1, v2] 25) (.cells #[.string B.name, .string B.help, .string B.unit, v3, v4] 25)
  have hbw := ((Below.refl _ w).alloc (Nat.le_refl _) (.cells #[.string A.name, .string A.help, .string A.unit, v1, v2] 25)).alloc (by simp) (.cells #[.string B.name, .string B.help, .string B.unit, v3, v4] 25)
  have HA1 := Lib.hid ha1
  have HA2 := Lib.hid ha2
  have HB1 := Lib.hid hb1
  have HB2 := Lib.hid hb2
  have HSA := Lib.hid hsA
  have HSB := Lib.hid hsB
  have HVS := Lib.hid hV
  obtain ⟨p1, c1, b1, o1, rfl, _⟩ := ha1
  obtain ⟨p2, c2, b2, o2, rfl, _⟩ := ha2
  obtain ⟨p3, c3, b3, o3, rfl, _⟩ := hb1
  obtain ⟨p4, c4, b4, o4, rfl, _⟩ := hb2
  clear hsA hsB hV
  go_enter Tryz.func4, Tryz.ntmps4
  go_upto_region 1 with fail
  generalize ((w.alloc (.cells #[.string A.name, .string A.help, .string A.unit, .slice p1 A.vars.length c1, .slice p2 A.cons.length c2] 25)).alloc (.cells #[.string B.name, .string B.help, .string B.unit, .slice p3 B.vars.length c3, .slice p4 B.cons.length c4] 25)) = w1 at *
  have HBW := Lib.hid hbw
  have KS : Hid (∀ x, TB w1 x → (x.cell? ⟨w.heap.size, 0, none⟩ = some (.string A.name) ∧ x.cell? ⟨w.heap.size, 1, none⟩ = some (.string A.help) ∧ x.cell? ⟨w.heap.size, 2, none⟩ = some (.string A.unit) ∧ x.cell? ⟨w.heap.size, 3, none⟩ = some (.slice p1 A.vars.length c1) ∧ x.cell? ⟨w.heap.size, 4, none⟩ = some (.slice p2 A.cons.length c2) ∧ x.cell? ⟨w.heap.size + 1, 0, none⟩ = some (.string B.name) ∧ x.cell? ⟨w.heap.size + 1, 1, none⟩ = some (.string B.help) ∧ x.cell? ⟨w.heap.size + 1, 2, none⟩ = some (.string B.unit) ∧ x.cell? ⟨w.heap.size + 1, 3, none⟩ = some (.slice p3 B.vars.length c3) ∧ x.cell? ⟨w.heap.size + 1, 4, none⟩ = some (.slice p4 B.cons.length c4))) := Lib.hid (fun x hx => by
    have h := (Chg.of_below hx Non).obj hA (fun h => h)
    have k := (Chg.of_below hx Non).obj hZ (fun h => h)
    refine ⟨?_, ?_, ?_, ?_, ?_, ?_, ?_, ?_, ?_, ?_⟩ <;> first | (rw [Lib.cell_of_heap h]; rfl) | (rw [Lib.cell_of_heap k]; rfl))
  have HT : Hid (∀ x, TB w1 x → Below w.heap.size w x) := Lib.hid (fun x hx => HBW.out.trans (Below.mono hx HBW.out.size))
  have HFA : Hid (∀ x, TB w1 x → Calls Tryz.prog 7 #[MetaV A.name A.help A.unit (.slice p1 A.vars.length c1) (.slice p2 A.cons.length c2)] x fun e w' => e = .returned (.bool true) ∧ Below x.heap.size x w') := Lib.hid (fun x hx => fits4 _ _ _ _ _ A.vars A.cons x HSA.out.name HSA.out.help HSA.out.unit (HA1.out.below (HT.out x hx)) HSA.out.nv HSA.out.vars (HA2.out.below (HT.out x hx)) HSA.out.nc HSA.out.cons)
  have HFB : Hid (∀ x, TB w1 x → Calls Tryz.prog 7 #[MetaV B.name B.help B.unit (.slice p3 B.vars.length c3) (.slice p4 B.cons.length c4)] x fun e w' => e = .returned (.bool true) ∧ Below x.heap.size x w') := Lib.hid (fun x hx => fits4 _ _ _ _ _ B.vars B.cons x HSB.out.name HSB.out.help HSB.out.unit (HB1.out.below (HT.out x hx)) HSB.out.nv HSB.out.vars (HB2.out.below (HT.out x hx)) HSB.out.nc HSB.out.cons)
  have HYA : Hid (∀ x, TB w1 x → Calls Tryz.prog 12 #[MetaV A.name A.help A.unit (.slice p1 A.vars.length c1) (.slice p2 A.cons.length c2)] x fun e w' => SaidB (SayOk A) x w' e) := Lib.hid (fun x hx => sayK A _ _ x (HA1.out.below (HT.out x hx)) (HA2.out.below (HT.out x hx)) HSA.out.nv HSA.out.nc ⟨HSA.out.name, HSA.out.help⟩ HSA.out.vars HSA.out.cons)
  have HYB : Hid (∀ x, TB w1 x → Calls Tryz.prog 12 #[MetaV B.name B.help B.unit (.slice p3 B.vars.length c3) (.slice p4 B.cons.length c4)] x fun e w' => SaidB (SayOk B) x w' e) := Lib.hid (fun x hx => sayK B _ _ x (HB1.out.below (HT.out x hx)) (HB2.out.below (HT.out x hx)) HSB.out.nv HSB.out.nc ⟨HSB.out.name, HSB.out.help⟩ HSB.out.vars HSB.out.cons)
  have HMD : Hid (∀ x D v, TB w1 x → (v = MetaV A.name A.help A.unit (.slice p1 A.vars.length c1) (.slice p2 A.cons.length c2) ∧ D = A ∨ v = MetaV B.name B.help B.unit (.slice p3 B.vars.length c3) (.slice p4 B.cons.length c4) ∧ D = B) → Calls Tryz.prog 10 #[v] x fun e w' => SaidMeta D x w' e) := Lib.hid (fun x D v hx h => by
    rcases h with ⟨rfl, rfl⟩ | ⟨rfl, rfl⟩
    · exact metaToK D _ _ x (HA1.out.below (HT.out x hx)) (HA2.out.below (HT.out x hx)) HSA.out.nv HSA.out.nc
    · exact metaToK D _ _ x (HB1.out.below (HT.out x hx)) (HB2.out.below (HT.out x hx)) HSB.out.nv HSB.out.nc)
  have HAK : Hid (∀ x, TB w1 x → Calls Tryz.prog 14 #[MetaV A.name A.help A.unit (.slice p1 A.vars.length c1) (.slice p2 A.cons.length c2), MetaV B.name B.help B.unit (.slice p3 B.vars.length c3) (.slice p4 B.cons.length c4)] x fun e w' => e = .returned (.bool (alikeB A B)) ∧ Stp x w') := Lib.hid (fun x hx => alikeK A B _ _ _ _ x (HA1.out.below (HT.out x hx)) (HA2.out.below (HT.out x hx)) (HB1.out.below (HT.out x hx)) (HB2.out.below (HT.out x hx)) HSA.out.nc HSB.out.nc)
  have HLV : Hid (∀ x, Calls Tryz.prog 11 #[] x fun e w' => e = .returned (.bool true) ∧ Stp x w') := Lib.hid (fun x => lives x)
  clear hA hZ hbw
  obtain ⟨m0, m1, m2, m3, m4, n0, n1, n2, n3, n4⟩ := KS.out _ (TB.refl w1)
  go_wp2_with (go_at_call 7; go_must (refine (HFA.out _ (TB.refl _)).mono ?_))
  first | rintro e w2 rfl hb2 | rintro e w2 ⟨rfl, hb2⟩
  have ht2 : TB w1 w2 := hb2
  clear m0 m1 m2 m3 m4 n0 n1 n2 n3 n4 hb2
  obtain ⟨m0, m1, m2, m3, m4, n0, n1, n2, n3, n4⟩ := KS.out _ ht2
  go_wp2_with (go_at_call 7; go_must (refine (HFB.out _ ht2).mono ?_))
  first | rintro e w3 rfl hb3 | rintro e w3 ⟨rfl, hb3⟩
  have ht3 : TB w1 w3 := TB.stp hb3 ht2
  clear m0 m1 m2 m3 m4 n0 n1 n2 n3 n4 hb3 ht2
  obtain ⟨m0, m1, m2, m3, m4, n0, n1, n2, n3, n4⟩ := KS.out _ ht3
  go_wp2_with (go_at_call 12; go_must (refine (HYA.out _ ht3).mono ?_))
  rintro e w4 ⟨⟨ba, rfl, hba⟩, hb4⟩
  have ht4 : TB w1 w4 := TB.stp hb4 ht3
  clear m0 m1 m2 m3 m4 n0 n1 n2 n3 n4 hb4 ht3
  cases ba with
  | false =>
    clear hba
    go_wp2_with (go_at_call 11; go_must (refine (HLV.out _).mono ?_))
    first | rintro e w7 rfl hb7 | rintro e w7 ⟨rfl, hb7⟩
    go_wp2_with fail
    go_ret
    exact ⟨rfl, HT.out _ (TB.stp hb7 ht4)⟩
  | true =>
  have HSAY := Lib.hid (hba rfl)
  clear hba
  obtain ⟨m0, m1, m2, m3, m4, n0, n1, n2, n3, n4⟩ := KS.out _ ht4
  go_wp2_with (go_at_call 12; go_must (refine (HYB.out _ ht4).mono ?_))
  rintro e w5 ⟨⟨bb, rfl, hbb⟩, hb5⟩
  have ht5 : TB w1 w5 := TB.stp hb5 ht4
  clear m0 m1 m2 m3 m4 n0 n1 n2 n3 n4 hb5 ht4
  cases bb with
  | false =>
    clear hbb
    go_wp2_with (go_at_call 11; go_must (refine (HLV.out _).mono ?_))
    first | rintro e w7 rfl hb7 | rintro e w7 ⟨rfl, hb7⟩
    go_wp2_with fail
    go_ret
    exact ⟨rfl, HT.out _ (TB.stp hb7 ht5)⟩
  | true =>
  have HSBY := Lib.hid (hbb rfl)
  clear hbb
  have HXX : Hid (∀ x D v1 v2 E v3 v4 bb, TB w1 x → KC x v1 D.vars → KE x v2 D.cons → KC x v3 E.vars → KE x v4 E.cons → (D = A ∧ E = B ∧ bb = alikeB A B ∨ D = A ∧ E = A ∧ bb = true) → Calls Tryz.prog 13 #[MetaV D.name D.help D.unit v1 v2, MetaV E.name E.help E.unit v3 v4] x fun e w' => e = .returned (.bool bb) ∧ Stp x w') := Lib.hid (fun x D v1 v2 E v3 v4 bb hx h1 h2 h3 h4 h => by
    rcases h with ⟨rfl, rfl, rfl⟩ | ⟨rfl, rfl, rfl⟩
    · have := metaAlikeK D E v1 v2 v3 v4 x h1.rd h2.rd h3.rd h4.rd HSA.out HSB.out (HVS.out.below (HT.out x hx)) HSAY.out.desc HSBY.out.desc
      rwa [alike_dec HSAY.out HSBY.out] at this
    · have := metaAlikeK E E v1 v2 v3 v4 x h1.rd h2.rd h3.rd h4.rd HSA.out HSA.out (HVS.out.below (HT.out x hx)) HSAY.out.desc HSAY.out.desc
      rw [show decide (dimT E = dimT E) = true from decide_eq_true (Eq.refl (dimT E))] at this
      exact this)
  generalize alikeB A B = al at *
  clear HFA HFB HYA HYB
  go_upto_region 5 with fail
  cases al
  all_goals
    go_region_held3 (fun x => x.cell? ⟨w.heap.size, 0, none⟩ = some (.string A.name) ∧ x.cell? ⟨w.heap.size, 1, none⟩ = some (.string A.help) ∧ x.cell? ⟨w.heap.size, 2, none⟩ = some (.string A.unit) ∧ x.cell? ⟨w.heap.size, 3, none⟩ = some (.slice p1 A.vars.length c1) ∧ x.cell? ⟨w.heap.size, 4, none⟩ = some (.slice p2 A.cons.length c2) ∧ x.cell? ⟨w.heap.size + 1, 0, none⟩ = some (.string B.name) ∧ x.cell? ⟨w.heap.size + 1, 1, none⟩ = some (.string B.help) ∧ x.cell? ⟨w.heap.size + 1, 2, none⟩ = some (.string B.unit) ∧ x.cell? ⟨w.heap.size + 1, 3, none⟩ = some (.slice p3 B.vars.length c3) ∧ x.cell? ⟨w.heap.size + 1, 4, none⟩ = some (.slice p4 B.cons.length c4))
      (exact KS.out _ (by repeat (first | assumption | apply TB.drew | refine TB.stp (by assumption) ?_)))
      (first
        | (go_at_call 10
           refine (HMD.out _ _ _ (by repeat (first | assumption | apply TB.drew | refine TB.stp (by assumption) ?_)) (by first | exact .inl ⟨rfl, rfl⟩ | exact .inr ⟨rfl, rfl⟩)).mono ?_
           rintro e wt ⟨⟨x3, x4, rfl, h3, h4⟩, hbt⟩
           have hst : Stp _ wt := hbt
           have k3 := KC.mk h3
           have k4 := KE.mk h4
           clear hbt h3 h4)
        | (go_at_call 14
           refine (HAK.out _ (by repeat (first | assumption | apply TB.drew | refine TB.stp (by assumption) ?_))).mono ?_
           rintro e wt ⟨rfl, hst⟩)
        | (go_at_call 13
           refine (HXX.out _ _ _ _ _ _ _ _ (by repeat (first | assumption | apply TB.drew | refine TB.stp (by assumption) ?_)) (by repeat (first | assumption | apply KC.drew | refine KC.stp (by assumption) ?_)) (by repeat (first | assumption | apply KE.drew | refine KE.stp (by assumption) ?_)) (by repeat (first | assumption | apply KC.drew | refine KC.stp (by assumption) ?_)) (by repeat (first | assumption | apply KE.drew | refine KE.stp (by assumption) ?_)) (by first | exact .inl ⟨rfl, rfl, rfl⟩ | exact .inr ⟨rfl, rfl, rfl⟩)).mono ?_
           rintro e wt ⟨rfl, hst⟩)
        | (go_at_call 11
           refine (HLV.out _).mono ?_
           rintro e wt ⟨rfl, hst⟩))
  all_goals go_wp2_with fail
  all_goals go_ret
  all_goals exact ⟨rfl, HT.out _ (by repeat (first | assumption | apply TB.drew | refine TB.stp (by assumption) ?_))⟩
end Go.Proofs.YtojlpfakdodnfaaGreatDoor
