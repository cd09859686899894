/- DoorLabelPairs, impl.LabelPairs. -/
import Derived.Test.YtojlpfakdodnfaaGreatDoorMlp
import Derived.Test.YtojlpfakdodnfaaGreatDoorMet2
import Derived.Test.YtojlpfakdodnfaaGreatDoorVlv
set_option linter.unusedVariables false
set_option linter.unusedSimpArgs false
namespace Go.Proofs.YtojlpfakdodnfaaGreatDoor
open Go.RowKit

theorem Good.below {w x : World} {P : Nat} {CQ : Nat → Value → Value → Prop} {D : Dsc} (h : Good w P CQ D) (hb : Below w.heap.size w x) : Good x P CQ D := by
  obtain ⟨Q, vv, lc, psv, hc, hD, hQ, hv, hp⟩ := h
  exact ⟨Q, vv, lc, psv, hc, (Chg.of_below hb Non).obj hD (fun h => h), (Chg.of_below hb Non).obj hQ (fun h => h), hv.below hb, hp.below hb⟩
def SaidLT (xs : List Ent) (w w' : World) (e : Ending) : Prop := (∃ v, e = .returned (.tuple #[v, .bool true]) ∧ RdLP w' v xs) ∧ Stp w w'
def SaidLE (xs : List Ent) (w w' : World) (e : Ending) : Prop := (∃ v, e = .returned (.tuple #[v, .bool true]) ∧ RdE w' v xs) ∧ Stp w w'
theorem RdLP.shape {w : World} {v : Value} {xs : List Ent} (h : RdLP w v xs) : ∃ a c, v = .slice a xs.length c := by
  obtain ⟨a, c, _, _, rfl, _⟩ := h
  exact ⟨a, c, rfl⟩
set_option maxHeartbeats 1600000 in
set_option maxRecDepth 100000 in
theorem doorLP (D : Dsc) (CQ : Nat → Value → Value → Prop) (P : Nat) (v3 : Value) (vals : List ByteArray) (w : World) (hg : Good w P CQ D) (hv3 : RdC Value.string w v3 vals) (hl : vals.length = D.vars.length) (hn : (D.keys ++ D.vars).Nodup) (hsum : D.vars.length + D.cons.length ≤ 4194304) (hval : vals.all vU = true) (hsz : ∀ x ∈ vals, x.size ≤ maxLen) (hV : Vars w) :
    Calls Tryz.prog 38 #[.pointer (some ⟨P, 0, none⟩), v3] w fun e w' => SaidLT (labelsOf D vals) w w' e := by
  have HM : Hid (∀ x, Stp w x → Calls Tryz.prog 50 #[.pointer (some ⟨P, 0, none⟩), v3] x fun e w' => SaidLP (labelsOf D vals) x w' e) := Lib.hid (fun x hx => makeLP D CQ P v3 vals x (hg.below hx) (hv3.below hx) hl hn hsum)
  have HVL : Hid (Calls Tryz.prog 49 #[v3, .int .i64 (D.vars.length : Int)] w fun e w' => e = .returned .nilIface ∧ Stp w w') := Lib.hid (by
    refine (validVals v3 vals D.vars.length w hv3 hsz (by unfold maxLen; omega) hV.ut hV.ev).mono ?_
    rintro e w' ⟨⟨r, rfl, h1, _⟩, hb⟩
    rw [h1 (by rw [decide_eq_true hl, hval]; rfl)]
    exact ⟨rfl, hb⟩)
  obtain ⟨Q, vv, lc, psv, _, hD, hQ, hvv, hps⟩ := hg
  obtain ⟨a1, cap1, b1, o1, rfl, hcp1, hmx1, hp1, hc1⟩ := hvv
  have c7 := hD.c7
  have c4 : w.cell? ⟨P, 4, none⟩ = some (.pointer (some ⟨Q, 0, none⟩)) := by rw [Lib.cell_of_heap hD]; rfl
  have c0 : w.cell? ⟨Q, 0, none⟩ = some (.slice a1 D.vars.length cap1) := by rw [Lib.cell_of_heap hQ]; rfl
  obtain ⟨a3, cap3, rfl⟩ : ∃ a c, v3 = .slice a vals.length c := by
    obtain ⟨a, c, _, _, rfl, _⟩ := hv3
    exact ⟨a, c, rfl⟩
  clear hD hQ hps hc1 hv3 hV hval hsz hn hl
  generalize labelsOf D vals = LO at *
  go_enter Tryz.func38, Tryz.ntmps38
  go_wp2_with (go_at_call 49; go_must (refine HVL.out.mono ?_))
  first | rintro e w2 rfl hb2 | rintro e w2 ⟨rfl, hb2⟩
  have HB2 := Lib.hid hb2
  clear c7 c4 c0 hb2
  go_wp2_with (go_at_call 50; go_must (refine (HM.out _ HB2.out).mono ?_))
  rintro e w3 ⟨⟨v, rfl, hv⟩, hb3⟩
  have HV := Lib.hid hv
  have HB3 : Hid (Stp w w3) := Lib.hid (Below.trans HB2.out (Below.mono hb3 (Below.size HB2.out)))
  clear hv hb3
  go_wp2_with fail
  go_ret2
  exact ⟨⟨_, rfl, HV.out⟩, HB3.out⟩
set_option maxHeartbeats 1600000 in
set_option maxRecDepth 100000 in
theorem labelPairsK (D : Dsc) (v1 v2 v3 : Value) (vals : List ByteArray) (w : World) (hv1 : RdC Value.string w v1 D.vars) (hv2 : RdE w v2 D.cons) (hv3 : RdC Value.string w v3 vals) (hs : Small D) (hV : Vars w) (hok : descOk D = true) (hl : vals.length = D.vars.length) (hval : vals.all vU = true) (hsz : ∀ x ∈ vals, x.size ≤ maxLen) :
    Calls Tryz.prog 17 #[MetaV D.name D.help D.unit v1 v2, v3] w fun e w' => SaidLE (labelsOf D vals) w w' e := by
  have hb0 := (Below.refl _ w).alloc (Nat.le_refl _) (.cells #[.string D.name, .string D.help, .string D.unit, v1, v2] 30)
  have HD := Lib.hid (descK D v1 v2 _ (hv1.below hb0) (hv2.below hb0) hs (hV.below hb0))
  have HB0 := Lib.hid hb0
  have HN : Hid ((D.keys ++ D.vars).Nodup) := Lib.hid (by
    have h1 := hok
    unfold descOk at h1
    exact of_decide_eq_true (Bool.and_eq_true_iff.1 h1).2)
  have HDL : Hid (∀ x P, Below w.heap.size w x → Good x P CU D → Calls Tryz.prog 38 #[.pointer (some ⟨P, 0, none⟩), v3] x fun e w' => SaidLT (labelsOf D vals) x w' e) := Lib.hid (fun x P hx hg => doorLP D CU P v3 vals x hg (hv3.below hx) hl HN.out hs.sum hval hsz (hV.below hx))
  have HLN : Hid ((labelsOf D vals).length ≤ 8388608) := Lib.hid (by have := labels_len hl; have := hs.sum; omega)
  have HOK := Lib.hid hok
  obtain ⟨a1, cap1, b1, o1, rfl, _⟩ := hv1
  obtain ⟨a2, cap2, b2, o2, rfl, _⟩ := hv2
  obtain ⟨a3, cap3, rfl⟩ : ∃ a c, v3 = .slice a vals.length c := by
    obtain ⟨a, c, _, _, rfl, _⟩ := hv3
    exact ⟨a, c, rfl⟩
  clear hs hV hok hb0 hval hsz hv3 hl
  generalize labelsOf D vals = LO at *
  go_enter Tryz.func17, Tryz.ntmps17
  go_wp2_with (go_at_call 30; go_must (refine HD.out.mono ?_))
  rintro e w2 ⟨P, rfl, hP, hb2, hg, _⟩
  have HG := Lib.hid (hg HOK.out)
  have HB2 : Hid (Below w.heap.size w w2) := Lib.hid (HB0.out.trans (hb2.mono HB0.out.size))
  clear hg hb2 hP
  go_wp2_with (go_at_call 38; go_must (refine (HDL.out _ _ HB2.out HG.out).mono ?_))
  rintro e w3 ⟨⟨lv, rfl, hlv⟩, hb3⟩
  have HB3 : Hid (Below w.heap.size w w3) := Lib.hid (HB2.out.trans (Below.mono hb3 HB2.out.size))
  have HPK := Lib.hid (pairsK lv LO w3 hlv HLN.out)
  obtain ⟨la, lc, rfl⟩ := hlv.shape
  clear hlv hb3
  go_wp2_with (go_at_call 39; go_must (refine HPK.out.mono ?_))
  rintro e w4 ⟨⟨ov, rfl, hov⟩, hb4⟩
  have HOV := Lib.hid (RdE.of_owns hov)
  have HB4 : Hid (Below w.heap.size w w4) := Lib.hid (HB3.out.trans (hb4.mono HB3.out.size))
  clear hov hb4
  go_wp2_with fail
  go_ret2
  exact ⟨⟨_, rfl, HOV.out⟩, HB4.out⟩
end Go.Proofs.YtojlpfakdodnfaaGreatDoor
