/- The law FnWrapMeta. -/
import Derived.Test.YtojlpfakdodnfaaGreatDoorWe
import Derived.Test.YtojlpfakdodnfaaGreatDoorWm2
import Derived.Test.YtojlpfakdodnfaaGreatDoorWr
import Derived.Test.YtojlpfakdodnfaaGreatDoorMf
import Derived.Test.YtojlpfakdodnfaaGreatDoorNameZ2
set_option linter.unusedVariables false
set_option linter.unusedSimpArgs false
namespace Go.Proofs.YtojlpfakdodnfaaGreatDoor
open Go.RowKit

def SaidW3 (D : Dsc) (nm : ByteArray) (L : List Ent) (fine : Bool) (w w' : World) (e : Ending) : Prop :=
  (∃ n h u xa xl xc ya yl yc, e = .returned (.tuple #[MetaV n h u (.slice xa xl xc) (.slice ya yl yc), .bool fine]) ∧ (fine = true → n = nm ∧ h = D.help ∧ u = D.unit ∧ RdC Value.string w' (.slice xa xl xc) D.vars ∧ RdE w' (.slice ya yl yc) (fit (fit D.cons ++ fit L)))) ∧ Stp w w'
theorem SaidW2.fine {D : Dsc} {nm : ByteArray} {L : List Ent} {fine : Bool} {w w' : World} {e : Ending} (hf : wrapFine D L = fine) (h : SaidW2 D nm L w w' e) : SaidW3 D nm L fine w w' e := by
  subst hf
  exact h
theorem RdC.shape {w : World} {v : Value} {xs : List ByteArray} (h : RdC Value.string w v xs) : ∃ a c, v = .slice a xs.length c := by
  obtain ⟨a, c, _, _, rfl, _⟩ := h
  exact ⟨a, c, rfl⟩
theorem RdE.shapeL {w : World} {v : Value} {xs : List Ent} (h : RdE w v xs) : ∃ a c, v = .slice a xs.length c := by
  obtain ⟨a, c, _, _, rfl, _⟩ := h
  exact ⟨a, c, rfl⟩
set_option maxHeartbeats 12800000 in
set_option maxRecDepth 100000 in
theorem wrapMetaLaw (D : Dsc) (v1 v2 : Value) (p : ByteArray) (L : List Ent) (v3 : Value) (w : World) (hv1 : RdC Value.string w v1 D.vars) (hv2 : RdE w v2 D.cons) (hs : Small D) (hp : p.size ≤ 1048576) (hv3 : RdE w v3 L) (hLl : L.length ≤ 1048576) (hLT : ∀ x ∈ L, Tiny x) (hV : Vars w) :
    Calls Tryz.prog 6 #[MetaV D.name D.help D.unit v1 v2, .string p, v3] w fun e w' => e = .returned (.bool true) ∧ Below w.heap.size w w' := by
  have hM := heap_alloc_new w (.cells #[.string D.name, .string D.help, .string D.unit, v1, v2] 25)
  have hbw := (Below.refl _ w).alloc (Nat.le_refl _) (.cells #[.string D.name, .string D.help, .string D.unit, v1, v2] 25)
  have HV1 := Lib.hid hv1
  have HV2 := Lib.hid hv2
  have HV3 := Lib.hid hv3
  have HS := Lib.hid hs
  have HVS := Lib.hid hV
  have HLT := Lib.hid hLT
  have HLL := Lib.hid hLl
  have HPZ := Lib.hid hp
  have hpz : ¬ ((2147483647 : Int) < (p.size : Int)) := by omega
  obtain ⟨p1, c1, b1, o1, rfl, _⟩ := hv1
  obtain ⟨p2, c2, b2, o2, rfl, _⟩ := hv2
  obtain ⟨p3, c3, rfl⟩ := hv3.shapeL
  clear hs hV hLT hv3 hLl
  go_enter Tryz.func6, Tryz.ntmps6
  go_upto_region 1 with fail
  generalize (w.alloc (.cells #[.string D.name, .string D.help, .string D.unit, .slice p1 D.vars.length c1, .slice p2 D.cons.length c2] 25)) = w1 at *
  have HBW := Lib.hid hbw
  have KS : Hid (∀ x, TB w1 x → (x.cell? ⟨w.heap.size, 0, none⟩ = some (.string D.name) ∧ x.cell? ⟨w.heap.size, 1, none⟩ = some (.string D.help) ∧ x.cell? ⟨w.heap.size, 2, none⟩ = some (.string D.unit) ∧ x.cell? ⟨w.heap.size, 3, none⟩ = some (.slice p1 D.vars.length c1) ∧ x.cell? ⟨w.heap.size, 4, none⟩ = some (.slice p2 D.cons.length c2))) := Lib.hid (fun x hx => by
    have h := (Chg.of_below hx Non).obj hM (fun h => h)
    refine ⟨?_, ?_, ?_, ?_, ?_⟩ <;> (rw [Lib.cell_of_heap h]; rfl))
  have HT : Hid (∀ x, TB w1 x → Below w.heap.size w x) := Lib.hid (fun x hx => HBW.out.trans (Below.mono hx HBW.out.size))
  have HF4 : Hid (∀ x, TB w1 x → Calls Tryz.prog 7 #[MetaV D.name D.help D.unit (.slice p1 D.vars.length c1) (.slice p2 D.cons.length c2)] x fun e w' => e = .returned (.bool true) ∧ Stp x w') := Lib.hid (fun x hx => fits4 _ _ _ _ _ D.vars D.cons x HS.out.name HS.out.help HS.out.unit (HV1.out.below (HT.out x hx)) HS.out.nv HS.out.vars (HV2.out.below (HT.out x hx)) HS.out.nc HS.out.cons)
  have HF5 : Hid (∀ x, TB w1 x → Calls Tryz.prog 21 #[.slice p3 L.length c3] x fun e w' => e = .returned (.bool true) ∧ Stp x w') := Lib.hid (fun x hx => fits5 _ L x (HV3.out.below (HT.out x hx)) (by have := HLL.out; omega) HLT.out)
  have HDW : Hid (∀ x, TB w1 x → Calls Tryz.prog 22 #[MetaV D.name D.help D.unit (.slice p1 D.vars.length c1) (.slice p2 D.cons.length c2), .string p, .slice p3 L.length c3] x fun e w' => SaidB (WrapIn D p L) x w' e) := Lib.hid (fun x hx => descWrapsK D _ _ _ p L x (HV1.out.below (HT.out x hx)) (HV2.out.below (HT.out x hx)) (HV3.out.below (HT.out x hx)) HS.out HLT.out HPZ.out)
  have HWD : Hid (∀ x, TB w1 x → Calls Tryz.prog 23 #[MetaV D.name D.help D.unit (.slice p1 D.vars.length c1) (.slice p2 D.cons.length c2), .string p, .slice p3 L.length c3] x fun e w' => SaidW2 D (p ++ D.name) L x w' e) := Lib.hid (fun x hx => wrappedK D _ _ _ p L x (HV1.out.below (HT.out x hx)) (HV2.out.below (HT.out x hx)) (HV3.out.below (HT.out x hx)) HPZ.out HS.out.name1 HS.out.nv HS.out.nc1 HLL.out)
  have HMD : Hid (∀ x, TB w1 x → Calls Tryz.prog 10 #[MetaV D.name D.help D.unit (.slice p1 D.vars.length c1) (.slice p2 D.cons.length c2)] x fun e w' => SaidMeta D x w' e) := Lib.hid (fun x hx => metaToK D _ _ x (HV1.out.below (HT.out x hx)) (HV2.out.below (HT.out x hx)) HS.out.nv HS.out.nc)
  have HPT : Hid (∀ x, TB w1 x → Calls Tryz.prog 25 #[.slice p3 L.length c3] x fun e w' => SaidP L x w' e) := Lib.hid (fun x hx => pairsTo _ L x (HV3.out.below (HT.out x hx)) (by have := HLL.out; omega))
  have HLV : Hid (∀ x, Calls Tryz.prog 11 #[] x fun e w' => e = .returned (.bool true) ∧ Stp x w') := Lib.hid (fun x => lives x)
  clear hM hbw
  obtain ⟨m0, m1, m2, m3, m4⟩ := KS.out _ (TB.refl w1)
  go_wp2_with (go_at_call 7; go_must (refine (HF4.out _ (TB.refl _)).mono ?_))
  first | rintro e w2 rfl hb2 | rintro e w2 ⟨rfl, hb2⟩
  have ht2 : TB w1 w2 := hb2
  clear m0 m1 m2 m3 m4 hb2
  go_wp2_with (go_at_call 21; go_must (refine (HF5.out _ ht2).mono ?_))
  first | rintro e w3 rfl hb3 | rintro e w3 ⟨rfl, hb3⟩
  have ht3 : TB w1 w3 := TB.stp hb3 ht2
  clear hb3 ht2
  obtain ⟨m0, m1, m2, m3, m4⟩ := KS.out _ ht3
  go_wp2_with (go_at_call 22; go_must (refine (HDW.out _ ht3).mono ?_))
  rintro e w4 ⟨⟨bb, rfl, hbb⟩, hb4⟩
  have ht4 : TB w1 w4 := TB.stp hb4 ht3
  clear m0 m1 m2 m3 m4 hb4 ht3
  cases bb with
  | false =>
    clear hbb
    go_wp2_with (go_at_call 11; go_must (refine (HLV.out _).mono ?_))
    first | rintro e w7 rfl hb7 | rintro e w7 ⟨rfl, hb7⟩
    go_wp2_with fail
    go_ret
    exact ⟨rfl, HT.out _ (TB.stp hb7 ht4)⟩
  | true =>
  have HIN := Lib.hid (hbb rfl)
  clear hbb HF4 HF5 HDW
  have HWM : Hid (∀ x x1 x2 x3, TB w1 x → KC x x1 D.vars → KE x x2 D.cons → KE x x3 L → Calls Tryz.prog 24 #[MetaV D.name D.help D.unit x1 x2, .string p, x3] x fun e w' => SaidW2 D (p ++ D.name) L x w' e) := Lib.hid (fun x x1 x2 x3 hx h1 h2 h3 => wrapMetaK D _ _ _ p L x h1.rd h2.rd h3.rd HS.out (HVS.out.below (HT.out x hx)) HIN.out.say HIN.out.name HIN.out.labels HLT.out HLL.out HPZ.out)
  obtain ⟨fine, hfi⟩ : ∃ fine, wrapFine D L = fine := ⟨_, rfl⟩
  have HFI := Lib.hid hfi
  clear hfi
  obtain ⟨m0, m1, m2, m3, m4⟩ := KS.out _ ht4
  go_wp2_with (go_at_call 23; go_must (refine (Calls.mono (HWD.out _ ht4) (fun e w' h => SaidW2.fine HFI.out h)).mono ?_))
  rintro e w5 ⟨⟨n, h, u, xa, xl, xc, ya, yl, yc, rfl, hfine⟩, hs5⟩
  have HFN := Lib.hid hfine
  have ht5 : TB w1 w5 := TB.stp hs5 ht4
  clear m0 m1 m2 m3 m4 hs5 ht4 hfine
  go_upto_region 6 with fail
  have hW7 := heap_alloc_new w5 (.cells #[.string n, .string h, .string u, .slice xa xl xc, .slice ya yl yc] 25)
  have ht6 : TB w1 (w5.alloc (.cells #[.string n, .string h, .string u, .slice xa xl xc, .slice ya yl yc] 25)) := TB.alloc2 ht5 _
  have HFN6 : Hid (fine = true → n = p ++ D.name ∧ h = D.help ∧ u = D.unit ∧ KC (w5.alloc (.cells #[.string n, .string h, .string u, .slice xa xl xc, .slice ya yl yc] 25)) (.slice xa xl xc) D.vars ∧ KE (w5.alloc (.cells #[.string n, .string h, .string u, .slice xa xl xc, .slice ya yl yc] 25)) (.slice ya yl yc) (fit (fit D.cons ++ fit L))) := Lib.hid (fun hf => by
    obtain ⟨e1, e2, e3, e4, e5⟩ := HFN.out hf
    have hb := (Below.refl _ w5).alloc (Nat.le_refl _) (.cells #[.string n, .string h, .string u, .slice xa xl xc, .slice ya yl yc] 25)
    exact ⟨e1, e2, e3, ⟨e4.below hb⟩, ⟨e5.below hb⟩⟩)
  clear ht5 HFN
  generalize (w5.alloc (.cells #[.string n, .string h, .string u, .slice xa xl xc, .slice ya yl yc] 25)) = w6 at *
  generalize w5.heap.size = B7 at *
  have HW7 := Lib.hid hW7
  have HT6 := Lib.hid ht6
  obtain ⟨m0, m1, m2, m3, m4⟩ := KS.out _ ht6
  clear hW7
  go_wp2_with (go_at_call 10; go_must (refine (HMD.out _ ht6).mono ?_))
  rintro e w7 ⟨⟨x1, x2, rfl, h1, h2⟩, hb7⟩
  have HS67 : Hid (TB w6 w7) := Lib.hid hb7
  have HT7 : Hid (TB w1 w7) := Lib.hid (TB.stp hb7 ht6)
  have HK1 := Lib.hid (KC.mk h1)
  have HK2 := Lib.hid (KE.mk h2)
  clear m0 m1 m2 m3 m4 hb7 ht6 h1 h2
  go_wp2_with (go_at_call 25; go_must (refine (HPT.out _ HT7.out).mono ?_))
  rintro e w8 ⟨⟨x3, rfl, h3⟩, hb8⟩
  have HT8 : Hid (TB w1 w8) := Lib.hid (TB.stp hb8 HT7.out)
  have HS68 : Hid (TB w6 w8) := Lib.hid (TB.stp hb8 HS67.out)
  have HWM8 := Lib.hid (HWM.out w8 x1 x2 x3 HT8.out (KC.stp hb8 HK1.out) (KE.stp hb8 HK2.out) ⟨h3⟩)
  clear hb8 h3 HWM
  go_wp2_with (go_at_call 24; go_must (refine (Calls.mono HWM8.out (fun e w' h => SaidW2.fine HFI.out h)).mono ?_))
  rintro e w9 ⟨⟨n', h', u', xa', xl', xc', ya', yl', yc', rfl, hfine⟩, hs9⟩
  have HFN' := Lib.hid hfine
  have HT9 : Hid (TB w1 w9) := Lib.hid (TB.stp hs9 HT8.out)
  have HS69 : Hid (TB w6 w9) := Lib.hid (TB.stp hs9 HS68.out)
  clear hs9 hfine
  cases fine with
  | false =>
    go_upto_region 7 with fail
    have HT10 : Hid (TB w1 (w9.alloc (.cells #[.string n', .string h', .string u', .slice xa' xl' xc', .slice ya' yl' yc'] 30))) := Lib.hid (TB.alloc2 HT9.out _)
    generalize (w9.alloc (.cells #[.string n', .string h', .string u', .slice xa' xl' xc', .slice ya' yl' yc'] 30)) = w10 at *
    go_wp2_with (go_at_call 11; go_must (refine (HLV.out _).mono ?_))
    first | rintro e w11 rfl hb11 | rintro e w11 ⟨rfl, hb11⟩
    go_wp2_with fail
    go_ret
    exact ⟨rfl, HT.out _ (TB.stp hb11 HT10.out)⟩
  | true =>
    obtain ⟨rfl, rfl, rfl, kx, ky⟩ := HFN6.out rfl
    obtain ⟨rfl, rfl, rfl, kx', ky'⟩ := HFN'.out rfl
    have HKX := Lib.hid kx
    have HKY := Lib.hid ky
    clear kx ky
    have hMF := metaFromK ⟨p ++ D.name, D.help, D.unit, D.vars, fit (fit D.cons ++ fit L)⟩ (.slice xa' xl' xc') (.slice ya' yl' yc') (w9.alloc (.cells #[.string (p ++ D.name), .string D.help, .string D.unit, .slice xa' xl' xc', .slice ya' yl' yc'] 30)) (kx'.below ((Below.refl _ w9).alloc (Nat.le_refl _) _)) (ky'.below ((Below.refl _ w9).alloc (Nat.le_refl _) _)) HS.out.nv (by
      have h1 := fit_len (fit D.cons ++ fit L)
      rw [List.length_append] at h1
      have h2 := fit_len D.cons
      have h3 := fit_len L
      have h4 := HS.out.nc1
      have h5 := HLL.out
      show (fit (fit D.cons ++ fit L)).length ≤ 4194304
      omega)
    have HMF := Lib.hid hMF
    clear hMF kx' ky' HFN6 HFN'
    go_upto_region 7 with fail
    have hW9 := heap_alloc_new w9 (.cells #[.string (p ++ D.name), .string D.help, .string D.unit, .slice xa' xl' xc', .slice ya' yl' yc'] 30)
    have HT10 : Hid (TB w1 (w9.alloc (.cells #[.string (p ++ D.name), .string D.help, .string D.unit, .slice xa' xl' xc', .slice ya' yl' yc'] 30))) := Lib.hid (TB.alloc2 HT9.out _)
    have HS610 : Hid (TB w6 (w9.alloc (.cells #[.string (p ++ D.name), .string D.help, .string D.unit, .slice xa' xl' xc', .slice ya' yl' yc'] 30))) := Lib.hid (TB.alloc2 HS69.out _)
    generalize (w9.alloc (.cells #[.string (p ++ D.name), .string D.help, .string D.unit, .slice xa' xl' xc', .slice ya' yl' yc'] 30)) = w10 at *
    generalize w9.heap.size = B9 at *
    obtain ⟨r0, r1, r2, r3, r4, _⟩ := out5 hW9
    clear hW9
    go_wp2_with (go_at_call 26; go_must (refine HMF.out.mono ?_))
    rintro e w11 ⟨⟨y1, y2, rfl, g1, g2⟩, hb11⟩
    have ht11 : TB w1 w11 := TB.stp hb11 HT10.out
    have hs611 : TB w6 w11 := TB.stp hb11 HS610.out
    have kc := KC.mk g1
    have ke := KE.mk g2
    obtain ⟨s1, t1, rfl⟩ := RdC.shape g1
    obtain ⟨s2, t2, rfl⟩ := RdE.shapeL g2
    clear r0 r1 r2 r3 r4 hb11 g1 g2 HMF
    dsimp only at kc ke ⊢
    have HKC := Lib.hid (KC.mk (kc.rd.below ((Below.refl _ w11).alloc (Nat.le_refl _) (.cells #[.string (p ++ D.name), .string D.help, .string D.unit, .slice s1 D.vars.length t1, .slice s2 (fit (fit D.cons ++ fit L)).length t2] 25))))
    have HKE := Lib.hid (KE.mk (ke.rd.below ((Below.refl _ w11).alloc (Nat.le_refl _) (.cells #[.string (p ++ D.name), .string D.help, .string D.unit, .slice s1 D.vars.length t1, .slice s2 (fit (fit D.cons ++ fit L)).length t2] 25))))
    have HT11 := Lib.hid ht11
    have HS611 := Lib.hid hs611
    clear kc ke ht11 hs611
    go_upto_region 10 with fail
    have hW11 := heap_alloc_new w11 (.cells #[.string (p ++ D.name), .string D.help, .string D.unit, .slice s1 D.vars.length t1, .slice s2 (fit (fit D.cons ++ fit L)).length t2] 25)
    have HT12 : Hid (TB w1 (w11.alloc (.cells #[.string (p ++ D.name), .string D.help, .string D.unit, .slice s1 D.vars.length t1, .slice s2 (fit (fit D.cons ++ fit L)).length t2] 25))) := Lib.hid (TB.alloc2 HT11.out _)
    have HS612 : Hid (TB w6 (w11.alloc (.cells #[.string (p ++ D.name), .string D.help, .string D.unit, .slice s1 D.vars.length t1, .slice s2 (fit (fit D.cons ++ fit L)).length t2] 25))) := Lib.hid (TB.alloc2 HS611.out _)
    generalize (w11.alloc (.cells #[.string (p ++ D.name), .string D.help, .string D.unit, .slice s1 D.vars.length t1, .slice s2 (fit (fit D.cons ++ fit L)).length t2] 25)) = w12 at *
    generalize w11.heap.size = B11 at *
    have HW11 := Lib.hid hW11
    have KK : Hid (∀ x, TB w12 x → x.heap[B11]? = some (.cells #[.string (p ++ D.name), .string D.help, .string D.unit, .slice s1 D.vars.length t1, .slice s2 (fit (fit D.cons ++ fit L)).length t2] 25 (0, 0)) ∧ x.heap[B7]? = some (.cells #[.string (p ++ D.name), .string D.help, .string D.unit, .slice xa xl xc, .slice ya yl yc] 25 (0, 0))) := Lib.hid (fun x hx => ⟨(Chg.of_below hx Non).obj HW11.out (fun h => h), (Chg.of_below (TB.stp hx HS612.out) Non).obj HW7.out (fun h => h)⟩)
    have HST := Lib.hid (sameTextsT _ _ D.vars w12 HKC.out.rd (HKX.out.rd.below HS612.out))
    have HSP : Hid (∀ x, TB w12 x → Calls Tryz.prog 18 #[.slice s2 (fit (fit D.cons ++ fit L)).length t2, .slice ya yl yc] x fun e w' => e = .returned (.bool true) ∧ Stp x w') := Lib.hid (fun x hx => samePairsT _ _ (fit (fit D.cons ++ fit L)) x (HKE.out.rd.below hx) (HKY.out.rd.below (TB.stp hx HS612.out)))
    have he := size_empty HIN.out.say.unit
    obtain ⟨k1, k2⟩ := KK.out _ (TB.refl w12)
    obtain ⟨a0, a1, a2, a3, a4, _⟩ := out5 k1
    obtain ⟨d0, d1, d2, d3, d4, _⟩ := out5 k2
    clear hW11 k1 k2
    go_wp2_with (go_at_call 27; go_must (refine HST.out.mono ?_))
    first | rintro e w13 rfl hb13 | rintro e w13 ⟨rfl, hb13⟩
    have ht13 : TB w12 w13 := hb13
    clear a0 a1 a2 a3 a4 d0 d1 d2 d3 d4 hb13
    obtain ⟨k1, k2⟩ := KK.out _ ht13
    obtain ⟨a0, a1, a2, a3, a4, _⟩ := out5 k1
    obtain ⟨d0, d1, d2, d3, d4, _⟩ := out5 k2
    clear k1 k2
    go_wp2_with (go_at_call 18; go_must (refine (HSP.out _ ht13).mono ?_))
    first | rintro e w14 rfl hb14 | rintro e w14 ⟨rfl, hb14⟩
    have ht14 : TB w12 w14 := TB.stp hb14 ht13
    clear a0 a1 a2 a3 a4 d0 d1 d2 d3 d4 hb14 ht13
    go_wp2_with (go_at_call 11; go_must (refine (HLV.out _).mono ?_))
    first | rintro e w15 rfl hb15 | rintro e w15 ⟨rfl, hb15⟩
    go_wp2_with fail
    go_ret
    exact ⟨rfl, HT.out _ (TB.stp hb15 (TB.stp ht14 HT12.out))⟩
end Go.Proofs.YtojlpfakdodnfaaGreatDoor
