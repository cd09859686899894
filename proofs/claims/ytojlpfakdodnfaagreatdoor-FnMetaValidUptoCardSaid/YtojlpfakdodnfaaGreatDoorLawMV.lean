/- The law FnMetaValid. -/
import Derived.Test.YtojlpfakdodnfaaGreatDoorMet2
import Derived.Test.YtojlpfakdodnfaaGreatDoorNameZ2
set_option linter.unusedVariables false
set_option linter.unusedSimpArgs false
namespace Go.Proofs.YtojlpfakdodnfaaGreatDoor
open Go.RowKit

set_option maxHeartbeats 3200000 in
set_option maxRecDepth 100000 in
theorem metaValidLaw (D : Dsc) (v1 v2 : Value) (w : World) (hv1 : RdC Value.string w v1 D.vars) (hv2 : RdE w v2 D.cons) (hs : Small D) (hV : Vars w) :
    Calls Tryz.prog 3 #[MetaV D.name D.help D.unit v1 v2] w fun e w' => e = .returned (.bool true) ∧ Below w.heap.size w w' := by
  have hb0 := (Below.refl _ w).alloc (Nat.le_refl _) (.cells #[.string D.name, .string D.help, .string D.unit, v1, v2] 25)
  have hA := heap_alloc_new w (.cells #[.string D.name, .string D.help, .string D.unit, v1, v2] 25)
  have H4 : Hid (∀ x, Below w.heap.size w x → Calls Tryz.prog 7 #[MetaV D.name D.help D.unit v1 v2] x fun e w' => e = .returned (.bool true) ∧ Below x.heap.size x w') := Lib.hid (fun x hx => fits4 _ _ _ v1 v2 D.vars D.cons x hs.name hs.help hs.unit (hv1.below hx) hs.nv hs.vars (hv2.below hx) hs.nc hs.cons)
  have HBD : Hid (∀ x, Below w.heap.size w x → Calls Tryz.prog 8 #[MetaV D.name D.help D.unit v1 v2] x fun e w' => SaidB (descOk D = false) x w' e) := Lib.hid (fun x hx => badK D v1 v2 x (hv1.below hx) (hv2.below hx) hs.nv hs.nc hs.vars hs.cons)
  have HSY : Hid (∀ x, Below w.heap.size w x → Calls Tryz.prog 12 #[MetaV D.name D.help D.unit v1 v2] x fun e w' => SaidB (SayOk D) x w' e) := Lib.hid (fun x hx => sayK D v1 v2 x (hv1.below hx) (hv2.below hx) hs.nv hs.nc ⟨hs.name, hs.help⟩ hs.vars hs.cons)
  have HMT : Hid (∀ x, Below w.heap.size w x → Calls Tryz.prog 10 #[MetaV D.name D.help D.unit v1 v2] x fun e w' => SaidMeta D x w' e) := Lib.hid (fun x hx => metaToK D v1 v2 x (hv1.below hx) (hv2.below hx) hs.nv hs.nc)
  have HMV : Hid (∀ x v3 v4, Below w.heap.size w x → RdC Value.string x v3 D.vars → RdE x v4 D.cons → Calls Tryz.prog 9 #[MetaV D.name D.help D.unit v3 v4] x fun e w' => e = .returned (.bool (descOk D)) ∧ Below x.heap.size x w') := Lib.hid (fun x v3 v4 hx h3 h4 => metaValidK D v3 v4 x h3 h4 hs (hV.below hx))
  have HB0 := Lib.hid hb0
  obtain ⟨a1, cap1, b1, o1, rfl, _⟩ := hv1
  obtain ⟨a2, cap2, b2, o2, rfl, _⟩ := hv2
  have HLT := Lib.hid (Array.getElem?_eq_some_iff.1 hA).1
  have HM : Hid (∀ x, Below (w.heap.size + 1) (w.alloc (.cells #[.string D.name, .string D.help, .string D.unit, .slice a1 D.vars.length cap1, .slice a2 D.cons.length cap2] 25)) x → (x.cell? ⟨w.heap.size, 0, none⟩ = some (.string D.name) ∧ x.cell? ⟨w.heap.size, 1, none⟩ = some (.string D.help) ∧ x.cell? ⟨w.heap.size, 2, none⟩ = some (.string D.unit) ∧ x.cell? ⟨w.heap.size, 3, none⟩ = some (.slice a1 D.vars.length cap1) ∧ x.cell? ⟨w.heap.size, 4, none⟩ = some (.slice a2 D.cons.length cap2))) := Lib.hid (fun x hx => by
    have h := (hx.block w.heap.size (by omega)).trans hA
    refine ⟨?_, ?_, ?_, ?_, ?_⟩ <;> (rw [Lib.cell_of_heap h]; rfl))
  clear hs hV hA hb0
  go_enter Tryz.func3, Tryz.ntmps3
  go_upto_region 1 with fail
  generalize (w.alloc (.cells #[.string D.name, .string D.help, .string D.unit, .slice a1 D.vars.length cap1, .slice a2 D.cons.length cap2] 25)) = w1 at *
  have hsz1 := HLT.out
  obtain ⟨m0, m1, m2, m3, m4⟩ := HM.out w1 (Below.refl _ _)
  go_wp2_with (go_at_call 7; go_must (refine (H4.out _ HB0.out).mono ?_))
  first | rintro e w2 rfl hb2 | rintro e w2 ⟨rfl, hb2⟩
  have hc2 : Below (w.heap.size + 1) w1 w2 := hb2.mono (by omega)
  have hb2' := HB0.out.trans (hb2.mono HB0.out.size)
  clear m0 m1 m2 m3 m4 hb2
  obtain ⟨m0, m1, m2, m3, m4⟩ := HM.out w2 hc2
  go_wp2_with (go_at_call 8; go_must (refine (HBD.out _ hb2').mono ?_))
  rintro e w3 ⟨⟨bb, rfl, hbad⟩, hb3⟩
  have hc3 : Below (w.heap.size + 1) w1 w3 := hc2.trans (hb3.mono (by have := hc2.size; omega))
  have hb3' := hb2'.trans (hb3.mono hb2'.size)
  clear m0 m1 m2 m3 m4 hb3
  obtain ⟨m0, m1, m2, m3, m4⟩ := HM.out w3 hc3
  cases bb with
  | true =>
    have HOK := Lib.hid (hbad rfl)
    clear hbad
    go_wp2_with (go_at_call 10; go_must (refine (HMT.out _ hb3').mono ?_))
    rintro e w4 ⟨⟨v3, v4, rfl, h3, h4⟩, hb4⟩
    have hb4' := hb3'.trans (hb4.mono hb3'.size)
    have HMV2 := HMV.out w4 v3 v4 hb4' h3 h4
    rw [HOK.out] at HMV2
    have HMV3 := Lib.hid HMV2
    clear m0 m1 m2 m3 m4 HMV2 h3 h4 hb4
    go_wp2_with (go_at_call 9; go_must (refine HMV3.out.mono ?_))
    first | rintro e w5 rfl hb5 | rintro e w5 ⟨rfl, hb5⟩
    have hb5' := hb4'.trans (hb5.mono hb4'.size)
    go_wp2_with (go_at_call 11; go_must (refine (lives _).mono ?_))
    first | rintro e w6 rfl hb6 | rintro e w6 ⟨rfl, hb6⟩
    go_wp2_with fail
    go_ret
    exact ⟨rfl, hb5'.trans (hb6.mono hb5'.size)⟩
  | false =>
    clear hbad
    go_wp2_with (go_at_call 12; go_must (refine (HSY.out _ hb3').mono ?_))
    rintro e w4 ⟨⟨bb, rfl, hsay⟩, hb4⟩
    have hc4 : Below (w.heap.size + 1) w1 w4 := hc3.trans (hb4.mono (by have := hc3.size; omega))
    have hb4' := hb3'.trans (hb4.mono hb3'.size)
    clear m0 m1 m2 m3 m4 hb4
    obtain ⟨m0, m1, m2, m3, m4⟩ := HM.out w4 hc4
    cases bb with
    | true =>
      have HOK := Lib.hid (hsay rfl).desc
      clear hsay
      go_wp2_with (go_at_call 10; go_must (refine (HMT.out _ hb4').mono ?_))
      rintro e w5 ⟨⟨v3, v4, rfl, h3, h4⟩, hb5⟩
      have hb5' := hb4'.trans (hb5.mono hb4'.size)
      have HMV2 := HMV.out w5 v3 v4 hb5' h3 h4
      rw [HOK.out] at HMV2
      have HMV3 := Lib.hid HMV2
      clear m0 m1 m2 m3 m4 HMV2 h3 h4 hb5
      go_wp2_with (go_at_call 9; go_must (refine HMV3.out.mono ?_))
      first | rintro e w6 rfl hb6 | rintro e w6 ⟨rfl, hb6⟩
      have hb6' := hb5'.trans (hb6.mono hb5'.size)
      go_wp2_with (go_at_call 11; go_must (refine (lives _).mono ?_))
      first | rintro e w7 rfl hb7 | rintro e w7 ⟨rfl, hb7⟩
      go_wp2_with fail
      go_ret
      exact ⟨rfl, hb6'.trans (hb7.mono hb6'.size)⟩
    | false =>
      clear hsay m0 m1 m2 m3 m4
      go_wp2_with (go_at_call 11; go_must (refine (lives _).mono ?_))
      first | rintro e w7 rfl hb7 | rintro e w7 ⟨rfl, hb7⟩
      go_wp2_with fail
      go_ret
      exact ⟨rfl, hb4'.trans (hb7.mono hb4'.size)⟩
end Go.Proofs.YtojlpfakdodnfaaGreatDoor
