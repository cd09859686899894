/- impl.WrapMeta. -/
import Derived.Test.YtojlpfakdodnfaaGreatDoorWm
import Derived.Test.YtojlpfakdodnfaaGreatDoorWs
import Derived.Test.YtojlpfakdodnfaaGreatDoorWe0
set_option linter.unusedVariables false
set_option linter.unusedSimpArgs false
namespace Go.Proofs.YtojlpfakdodnfaaGreatDoor
open Go.RowKit

set_option maxHeartbeats 6400000 in
set_option maxRecDepth 100000 in
theorem wrapMetaK (D : Dsc) (v1 v2 v3 : Value) (p : ByteArray) (L : List Ent) (w : World) (hv1 : RdC Value.string w v1 D.vars) (hv2 : RdE w v2 D.cons) (hv3 : RdE w v3 L) (hs : Small D) (hV : Vars w) (hS : SayOk D) (hnm : plain (p ++ D.name) = true) (hL : PlainAll L) (hLT : ∀ x ∈ L, Tiny x) (hLl : L.length ≤ 1048576) (hp : p.size ≤ 1048576) :
    Calls Tryz.prog 24 #[MetaV D.name D.help D.unit v1 v2, .string p, v3] w fun e w' => SaidW2 D (p ++ D.name) L w w' e := by
  have hM := (Below.heap_alloc (w.alloc (.cells #[.string D.name, .string D.help, .string D.unit, v1, v2] 30)) (.cells #[.string ⟨#[]⟩, .string ⟨#[]⟩, .string ⟨#[]⟩, .slice none 0 0, .slice none 0 0] 30) w.heap.size (by simp)).trans (heap_alloc_new w (.cells #[.string D.name, .string D.help, .string D.unit, v1, v2] 30))
  have hZ := heap_alloc2_new w (.cells #[.string D.name, .string D.help, .string D.unit, v1, v2] 30) (.cells #[.string ⟨#[]⟩, .string ⟨#[]⟩, .string ⟨#[]⟩, .slice none 0 0, .slice none 0 0] 30)
  have hbw := ((Below.refl _ w).alloc (Nat.le_refl _) (.cells #[.string D.name, .string D.help, .string D.unit, v1, v2] 30)).alloc (by simp) (.cells #[.string ⟨#[]⟩, .string ⟨#[]⟩, .string ⟨#[]⟩, .slice none 0 0, .slice none 0 0] 30)
  have HV3 := Lib.hid hv3
  have HS := Lib.hid hs
  have HVS := Lib.hid hV
  have HSY := Lib.hid hS
  have HNM := Lib.hid hnm
  have HPL := Lib.hid hL
  have HLT := Lib.hid hLT
  have HLL := Lib.hid hLl
  have HPZ := Lib.hid hp
  have HV1 := Lib.hid hv1
  have HV2 := Lib.hid hv2
  obtain ⟨a1, cap1, b1, o1, rfl, _⟩ := hv1
  obtain ⟨a2, cap2, b2, o2, rfl, _⟩ := hv2
  obtain ⟨a3, cap3, rfl⟩ := hv3.shape
  clear hv3 hs hV hS hnm hL hLT hLl hp
  go_enter Tryz.func24, Tryz.ntmps24
  go_upto_region 1 with fail
  generalize ((w.alloc (.cells #[.string D.name, .string D.help, .string D.unit, .slice a1 D.vars.length cap1, .slice a2 D.cons.length cap2] 30)).alloc (.cells #[.string ⟨#[]⟩, .string ⟨#[]⟩, .string ⟨#[]⟩, .slice none 0 0, .slice none 0 0] 30)) = w1 at *
  have HBW := Lib.hid hbw
  have HZ := Lib.hid hZ
  have HRS : Hid (w.heap.size + 1 < w1.heap.size) := Lib.hid (Array.getElem?_eq_some_iff.1 hZ).1
  have HT : Hid (∀ x, TB w1 x → Below w.heap.size w x) := Lib.hid (fun x hx => HBW.out.trans (Below.mono hx HBW.out.size))
  have m0 : w1.cell? ⟨w.heap.size, 0, none⟩ = some (.string D.name) := by rw [Lib.cell_of_heap hM]; rfl
  have m1 : w1.cell? ⟨w.heap.size, 1, none⟩ = some (.string D.help) := by rw [Lib.cell_of_heap hM]; rfl
  have m2 : w1.cell? ⟨w.heap.size, 2, none⟩ = some (.string D.unit) := by rw [Lib.cell_of_heap hM]; rfl
  have m3 : w1.cell? ⟨w.heap.size, 3, none⟩ = some (.slice a1 D.vars.length cap1) := by rw [Lib.cell_of_heap hM]; rfl
  have m4 : w1.cell? ⟨w.heap.size, 4, none⟩ = some (.slice a2 D.cons.length cap2) := by rw [Lib.cell_of_heap hM]; rfl
  have HDK := Lib.hid (descK D _ _ w1 (HV1.out.below hbw) (HV2.out.below hbw) HS.out (HVS.out.below hbw))
  clear hM hZ hbw
  go_wp2_with (go_at_call 30; go_must (refine HDK.out.mono ?_))
  rintro e w2 ⟨P, rfl, _, hb2, hg, _⟩
  have HT2 : Hid (TB w1 w2) := Lib.hid hb2
  have HG2 := Lib.hid (hg HSY.out.desc)
  have HLK := Lib.hid (labelsK _ L w2 (HV3.out.below (HT.out _ hb2)) (fun y hy => tiny_fine (HLT.out y hy)))
  clear m0 m1 m2 m3 m4 hb2 hg HDK
  go_wp2_with (go_at_call 44; go_must (refine HLK.out.mono ?_))
  rintro e w3 ⟨⟨mv, rfl, hmv⟩, hb3⟩
  obtain ⟨lp, rfl, hlp⟩ := MapIs.of hmv
  have HT3 : Hid (TB w1 w3) := Lib.hid (TB.stp hb3 HT2.out)
  have HDW := Lib.hid (doorWrap D CU P p lp L w3 (HG2.out.below hb3) hlp HS.out (HVS.out.below (HT.out _ HT3.out)) HSY.out HNM.out HPL.out HLT.out HLL.out HPZ.out)
  clear hmv hlp hb3 HLK
  go_wp2_with (go_at_call 43; go_must (refine HDW.out.mono ?_))
  rintro e w4 ⟨P', rfl, hs4, hg4, hbad4⟩
  have HT4 : Hid (TB w1 w4) := Lib.hid (TB.stp hs4 HT3.out)
  clear hs4 HDW
  cases hf : wrapFine D L with
  | false =>
    obtain ⟨er, c7, her⟩ := hbad4 hf
    have HER := Lib.hid (errK P' er w4 c7 (.inr her))
    have HF := Lib.hid hf
    obtain ⟨et, ex, rfl⟩ := her
    have hR := (Chg.of_below HT4.out Non).obj HZ.out (fun h => h)
    obtain ⟨r0, r1, r2, r3, r4, f0, f1, f2, f3, f4⟩ := out5 hR
    have HR := Lib.hid hR
    clear hg4 hbad4 hf c7 hR
    go_wp2_with (go_at_call 31; go_must (refine HER.out.mono ?_); first | rintro e w5 rfl rfl | rintro e w5 ⟨rfl, rfl⟩)
    refine bodyPost_ret (results_cell_row2 rfl _ _ (w.heap.size + 1) 30 #[.string ⟨#[]⟩, .string ⟨#[]⟩, .string ⟨#[]⟩, .slice none 0 0, .slice none 0 0] (0, 0) _ rfl (row5 HR.out rfl _ _ _ _ _) Tryz.underlying30 rfl (by kernel_rfl)) rfl ?_
    exact ⟨⟨_, _, _, _, _, _, _, _, _, by rw [HF.out]; rfl, fun h => by rw [HF.out] at h; cases h⟩, stp5 (HT.out _ HT4.out) (Nat.le_succ _) _ _ _ _ _⟩
  | true =>
    have HG4 := Lib.hid (hg4 hf)
    have HF := Lib.hid hf
    obtain ⟨Q', vv', lc', psv', _, hD', _⟩ := HG4.out
    have HER := Lib.hid (errK P' .nilIface w4 hD'.c7 (.inl rfl))
    have HDP := Lib.hid (doorParts _ CW P' w4 HG4.out)
    clear hg4 hbad4 hf hD'
    go_wp2_with (first
      | (go_at_call 31; go_must (refine HER.out.mono ?_); first | rintro e w5 rfl rfl | rintro e w5 ⟨rfl, rfl⟩)
      | (go_at_call 45; go_must (refine HDP.out.mono ?_)))
    rintro e w5 ⟨vv, psv, rfl, hvv, hps, hs5⟩
    have HT5 : Hid (TB w1 w5) := Lib.hid (TB.stp hs5 HT4.out)
    have hs15 : w1.heap.size ≤ w5.heap.size := Below.size HT5.out
    have HVV := Lib.hid hvv
    have HPS := Lib.hid hps
    have HLN : Hid ((fit (fit D.cons ++ fit L)).length ≤ 8388608) := Lib.hid (by
      have h1 := fit_len (fit D.cons ++ fit L)
      rw [List.length_append] at h1
      have h2 := fit_len D.cons
      have h3 := fit_len L
      have h4 := HS.out.nc1
      have h5 := HLL.out
      omega)
    have hvn : D.vars.length ≤ 4194304 := HS.out.nv
    obtain ⟨va, vc, vb, vo, rfl, _⟩ := hvv
    obtain ⟨pa, pc, rfl⟩ := hps.shape
    clear hps hs5
    go_wp2_with (at_builtin; go_must (refine ap_strs rfl _ _ rfl rfl rfl (B := w5.heap.size) (n := 0) (xs := []) (vars := D.vars) ⟨rfl, .inl ⟨rfl, rfl⟩⟩ HVV.out (by omega) (Nat.le_refl _) ?_))
    intro nv w6 ho6 hg6
    have hb6 : Below w5.heap.size w5 w6 := (Below.refl _ _).grown hg6 (Nat.le_refl _) (fun q hq => by cases hq)
    have HT6 : Hid (TB w1 w6) := Lib.hid (TB.stp hb6 HT5.out)
    have HPK := Lib.hid (pairsK _ (fit (fit D.cons ++ fit L)) w6 (HPS.out.below hb6) HLN.out)
    obtain ⟨na, nc, rfl, hnc⟩ := own_shapeL ho6
    have HO6 := Lib.hid ho6
    have HB56 := Lib.hid hb6
    clear ho6 hg6 hb6
    go_wp2_with (go_at_call 39; go_must (refine HPK.out.mono ?_))
    rintro e w7 ⟨⟨pv, rfl, hpv⟩, hb7⟩
    have HT7 : Hid (TB w1 w7) := Lib.hid (TB.stp hb7 HT6.out)
    obtain ⟨qa, qc, rfl, hqc⟩ := own_shapeL hpv
    have hR := (Chg.of_below HT7.out Non).obj HZ.out (fun h => h)
    obtain ⟨r0, r1, r2, r3, r4, f0, f1, f2, f3, f4⟩ := out5 hR
    have HR := Lib.hid hR
    have HPV := Lib.hid hpv
    have HO7 := Lib.hid ((Chg.of_below hb7 Non).row HO6.out (fun q _ h => h))
    have HS6 : Hid (w5.heap.size ≤ w6.heap.size) := Lib.hid (Below.size HB56.out)
    clear hR hpv hb7
    go_wp2_with fail
    refine bodyPost_ret (results_cell_row2 rfl _ _ (w.heap.size + 1) 30 #[.string (p ++ D.name), .string D.help, .string D.unit, .slice na D.vars.length nc, .slice qa (fit (fit D.cons ++ fit L)).length qc] (0, 0) _ rfl (row5 HR.out rfl _ _ _ _ _) Tryz.underlying30 rfl (by kernel_rfl)) rfl ?_
    have hR5 : w.heap.size + 1 < w5.heap.size := by have := HRS.out; omega
    have hcS : ∀ a b c d e : Value, Chg (fun i => i = w.heap.size + 1) w7 (((((w7.setCell ⟨w.heap.size + 1, 0, none⟩ a).setCell ⟨w.heap.size + 1, 1, none⟩ b).setCell ⟨w.heap.size + 1, 2, none⟩ c).setCell ⟨w.heap.size + 1, 3, none⟩ d).setCell ⟨w.heap.size + 1, 4, none⟩ e) := fun a b c d e => (((((Chg.refl (fun i => i = w.heap.size + 1) w7).setCell (p := ⟨w.heap.size + 1, 0, none⟩) (.inl rfl) a).setCell (p := ⟨w.heap.size + 1, 1, none⟩) (.inl rfl) b).setCell (p := ⟨w.heap.size + 1, 2, none⟩) (.inl rfl) c).setCell (p := ⟨w.heap.size + 1, 3, none⟩) (.inl rfl) d).setCell (p := ⟨w.heap.size + 1, 4, none⟩) (.inl rfl) e
    have hO7 : w7.ownsRow w5.heap.size 9 1 (.slice na D.vars.length nc) D.vars.length (D.vars.map Value.string) := by simpa using HO7.out
    exact ⟨⟨_, _, _, _, _, _, _, _, _, by rw [HF.out]; rfl, fun _ => ⟨rfl, rfl, rfl, RdC.of_owns ((hcS _ _ _ _ _).row hO7 (fun q hq (e : q = w.heap.size + 1) => by have := (row_from hO7 q hq).1; omega)), RdE.of_owns ((hcS _ _ _ _ _).row HPV.out (fun q hq (e : q = w.heap.size + 1) => by have := (row_from HPV.out q hq).1; have := HS6.out; omega))⟩⟩, stp5 (HT.out _ HT7.out) (Nat.le_succ _) _ _ _ _ _⟩
end Go.Proofs.YtojlpfakdodnfaaGreatDoor
