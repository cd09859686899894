/- descWraps. -/
import Derived.Test.YtojlpfakdodnfaaGreatDoorWs
import Derived.Test.YtojlpfakdodnfaaGreatDoorMet2
import Derived.Test.YtojlpfakdodnfaaGreatDoorWe0
set_option linter.unusedVariables false
set_option linter.unusedSimpArgs false
namespace Go.Proofs.YtojlpfakdodnfaaGreatDoor
open Go.RowKit

/-- What wrapping is specified for. -/
structure WrapIn (D : Dsc) (p : ByteArray) (L : List Ent) : Prop where
  say : SayOk D
  name : plain (p ++ D.name) = true
  labels : PlainAll L
set_option maxHeartbeats 3200000 in
set_option maxRecDepth 100000 in
theorem descWrapsK (D : Dsc) (v1 v2 v3 : Value) (p : ByteArray) (L : List Ent) (w : World) (hv1 : RdC Value.string w v1 D.vars) (hv2 : RdE w v2 D.cons) (hv3 : RdE w v3 L) (hs : Small D) (hLT : ∀ x ∈ L, Tiny x) (hp : p.size ≤ 1048576) :
    Calls Tryz.prog 22 #[MetaV D.name D.help D.unit v1 v2, .string p, v3] w fun e w' => SaidB (WrapIn D p L) w w' e := by
  have hM := heap_alloc_new w (.cells #[.string D.name, .string D.help, .string D.unit, v1, v2] 25)
  have hbw := (Below.refl _ w).alloc (Nat.le_refl _) (.cells #[.string D.name, .string D.help, .string D.unit, v1, v2] 25)
  have HV1 := Lib.hid hv1
  have HV2 := Lib.hid hv2
  have HV3 := Lib.hid hv3
  have HS := Lib.hid hs
  have HLT := Lib.hid hLT
  have hadd : ∀ z, (Op.stringOp .add p D.name).run Tryz.prog z = .ok (.string (p ++ D.name)) z := fun z => run_string_add_sum z _ _ (by have := hs.name1; omega)
  have HPZ : Hid ((p ++ D.name).size ≤ maxLen) := Lib.hid (by rw [ByteArray.size_append]; have := hs.name1; unfold maxLen; omega)
  obtain ⟨a1, cap1, b1, o1, rfl, _⟩ := hv1
  obtain ⟨a2, cap2, b2, o2, rfl, _⟩ := hv2
  obtain ⟨a3, cap3, rfl⟩ := hv3.shape
  clear hv3 hs hLT
  go_enter Tryz.func22, Tryz.ntmps22
  go_upto_region 1 with fail
  generalize (w.alloc (.cells #[.string D.name, .string D.help, .string D.unit, .slice a1 D.vars.length cap1, .slice a2 D.cons.length cap2] 25)) = w1 at *
  have HBW := Lib.hid hbw
  have HM := Lib.hid hM
  obtain ⟨m0, m1, m2, m3, m4, _⟩ := out5 hM
  have HSY := Lib.hid (sayK D _ _ w1 (HV1.out.below hbw) (HV2.out.below hbw) HS.out.nv HS.out.nc ⟨HS.out.name, HS.out.help⟩ HS.out.vars HS.out.cons)
  clear hM hbw
  go_wp2_with (go_at_call 12; go_must (refine HSY.out.mono ?_))
  rintro e w2 ⟨⟨ba, rfl, hba⟩, hb2⟩
  have HB2 : Hid (Below w.heap.size w w2) := Lib.hid (HBW.out.trans (hb2.mono HBW.out.size))
  have hM2 := (Chg.of_below hb2 Non).obj HM.out (fun h => h)
  clear m0 m1 m2 m3 m4 hb2
  cases ba with
  | false =>
    clear hba hM2
    go_wp2_with fail
    go_ret
    exact ⟨⟨_, rfl, fun h => by cases h⟩, HB2.out⟩
  | true =>
  have HSAY := Lib.hid (hba rfl)
  obtain ⟨m0, m1, m2, m3, m4, _⟩ := out5 hM2
  have HPL := Lib.hid (plainK (p ++ D.name) HPZ.out w2)
  have HPP := Lib.hid (plainPairs _ L w2 (HV3.out.below HB2.out) HLT.out)
  clear hba hM2
  cases hpl : plain (p ++ D.name) with
  | false =>
    rw [hpl] at HPL
    clear hpl
    go_wp2_with (go_at_call 33; go_must (refine HPL.out.mono ?_); first | rintro e w5 rfl rfl | rintro e w5 ⟨rfl, rfl⟩)
    go_ret
    exact ⟨⟨_, rfl, fun h => by cases h⟩, HB2.out⟩
  | true =>
    rw [hpl] at HPL
    have HNM := Lib.hid hpl
    clear hpl
    go_wp2_with (first
      | (go_at_call 33; go_must (refine HPL.out.mono ?_); first | rintro e w5 rfl rfl | rintro e w5 ⟨rfl, rfl⟩)
      | (go_at_call 42; go_must (refine HPP.out.mono ?_)))
    rintro e w3 ⟨⟨bb, rfl, hbb⟩, hb3⟩
    have HB3 : Hid (Below w.heap.size w w3) := Lib.hid (HB2.out.trans (hb3.mono HB2.out.size))
    have HBB := Lib.hid hbb
    clear hbb hb3
    go_wp2_with fail
    go_ret
    exact ⟨⟨_, rfl, fun h => ⟨HSAY.out, HNM.out, HBB.out h⟩⟩, HB3.out⟩
end Go.Proofs.YtojlpfakdodnfaaGreatDoor
