/- DoorDesc, impl.desc, impl.MetaValid. -/
import Derived.Test.YtojlpfakdodnfaaGreatDoorMet
import Derived.Test.YtojlpfakdodnfaaGreatDoorNew3
import Derived.Laws.EntriesVeiled
set_option linter.unusedVariables false
set_option linter.unusedSimpArgs false
namespace Go.Proofs.YtojlpfakdodnfaaGreatDoor
open Go.RowKit

/-- The bounds on a descriptor's data. -/
structure Small (D : Dsc) : Prop where
  name : D.name.size ≤ 4194304
  help : D.help.size ≤ 4194304
  unit : D.unit.size ≤ 4194304
  vars : ∀ x ∈ D.vars, x.size ≤ 4194304
  cons : ∀ x ∈ D.cons, Tiny x
  nv : D.vars.length ≤ 4194304
  nc : D.cons.length ≤ 4194304
  sum : D.vars.length + D.cons.length ≤ 4194304
  name1 : D.name.size ≤ 1048576
  nc1 : D.cons.length ≤ 1048576
theorem tiny_fine {x : Ent} (h : Tiny x) : Fine x := ⟨by have := h.1; unfold maxLen; omega, by have := h.2; unfold maxLen; omega⟩
/-- What stands of the program's variables. -/
structure Vars (w : World) : Prop where
  ut : UT w
  ev : EV w
  sep : Sep w
theorem Vars.below {w x : World} (h : Vars w) (hb : Below w.heap.size w x) : Vars x := ⟨h.ut.below hb, h.ev.below hb, h.sep.below hb⟩
def CU : Nat → Value → Value → Prop := fun _ _ lc => lc = .map none
set_option maxRecDepth 100000 in
theorem withUnit (s : ByteArray) (w : World) : Calls Tryz.prog 55 #[.string s] w
    fun e w' => e = .returned (.func (.func 66) #[] #[.pointer (some ⟨w.heap.size, 0, none⟩)]) ∧ w' = w.alloc (.cells #[.string s] 9) := by
  have hmf : ∀ (z : World) (v : Value), Sem.run Tryz.prog (Instr.makeFunc (.func 66) #[] #[v]) z = .ok (.func (.func 66) #[] #[v]) z := fun z v => by kernel_rfl
  go_enter Tryz.func55, Tryz.ntmps55
  go_wp2_with fail
  go_ret
  exact ⟨rfl, rfl⟩
set_option maxHeartbeats 3200000 in
set_option maxRecDepth 100000 in
theorem doorDesc (D : Dsc) (v : Value) (mp : Option Nat) (w : World) (hv : RdC Value.string w v D.vars) (hM : MapIs w mp D.cons) (hs : Small D) (hV : Vars w) :
    Calls Tryz.prog 47 #[.string D.name, .string D.help, .string D.unit, v, .map mp] w fun e w' => SaidD CU D w w' e := by
  have HV := Lib.hid hv
  have HM := Lib.hid hM
  have HS := Lib.hid hs
  have HVS := Lib.hid hV
  obtain ⟨a, cap, b, off, rfl, _⟩ := hv
  go_enter Tryz.func47, Tryz.ntmps47
  go_upto_region 1 with fail
  have HND : Hid (∀ (x : World) (ob ub : Nat), Below w.heap.size w x → x.cell? ⟨ob, 0, none⟩ = some (.func (.func 66) #[] #[.pointer (some ⟨ub, 0, none⟩)]) → x.cell? ⟨ub, 0, none⟩ = some (.string D.unit) →
      Calls Tryz.prog 54 #[.agg #[], .string D.name, .string D.help, .iface 91 (.slice a D.vars.length cap), .map mp, .slice (some ⟨ob, 0, none⟩) 1 1] x fun e w' => SaidD CU D x w' e) := Lib.hid (fun x ob ub hx h1 h2 => by
    have hs := HS.out
    have hV := HVS.out.below hx
    exact newDescS D CU _ _ mp ob ub x (.inl ⟨rfl, HV.out.below hx, fun _ => rfl⟩) h1 h2 hs.vars (HM.out.below hx) (fun x hx => tiny_fine (hs.cons x hx)) (by have := hs.name; unfold maxLen; omega) ⟨hs.name, hs.help, hs.unit⟩ (fun x hx => hs.cons x hx) hs.nc hs.nv hV.ut hV.ev hV.sep)
  clear hM hs hV
  go_region_held3 (fun x => Below w.heap.size w x) (exact (by repeat (first | assumption | exact Below.refl _ _ | apply Below.drew | refine Bw.alloc ?_ (Nat.le_refl _) _)))
    (first
      | (go_at_call 55
         refine (withUnit _ _).mono ?_
         rintro e w2 ⟨rfl, rfl⟩)
      | (go_at_call 54
         refine (HND.out _ _ w.heap.size (by repeat (first | assumption | exact Below.refl _ _ | apply Below.drew | refine Bw.alloc ?_ (Nat.le_refl _) _)) (by simp) (by simp)).mono ?_
         rintro e w3 ⟨P, rfl, hP, hb3, hg, hbad⟩
         have hb4 : Below w.heap.size w w3 := Below.trans (by repeat (first | assumption | exact Below.refl _ _ | apply Below.drew | refine Bw.alloc ?_ (Nat.le_refl _) _)) (hb3.mono (by first | (simp; done) | (simp; omega)))
         have hP2 : w.heap.size ≤ P := Nat.le_trans (by first | (simp; done) | (simp; omega)) hP
         have hg' := Lib.hid hg
         have hbad' := Lib.hid hbad
         clear hb3 hP hg hbad))
  go_wp2_with fail
  go_ret
  exact ⟨P, rfl, hP2, hb4, hg'.out, hbad'.out⟩
set_option maxHeartbeats 3200000 in
set_option maxRecDepth 100000 in
theorem descK (D : Dsc) (v1 v2 : Value) (w : World) (hv1 : RdC Value.string w v1 D.vars) (hv2 : RdE w v2 D.cons) (hs : Small D) (hV : Vars w) :
    Calls Tryz.prog 30 #[MetaV D.name D.help D.unit v1 v2] w fun e w' => SaidD CU D w w' e := by
  have HV1 := Lib.hid hv1
  have HV2 := Lib.hid hv2
  have HS := Lib.hid hs
  have HVS := Lib.hid hV
  obtain ⟨a1, cap1, b1, o1, rfl, _⟩ := hv1
  obtain ⟨a2, cap2, b2, o2, rfl, _⟩ := hv2
  have hnv := hs.nv
  clear hs hV
  go_enter Tryz.func30, Tryz.ntmps30
  go_upto_region 1 with fail
  have hA := heap_alloc_new w (.cells #[.string D.name, .string D.help, .string D.unit, .slice a1 D.vars.length cap1, .slice a2 D.cons.length cap2] 30)
  have hb1 := (Below.refl _ w).alloc (Nat.le_refl _) (.cells #[.string D.name, .string D.help, .string D.unit, .slice a1 D.vars.length cap1, .slice a2 D.cons.length cap2] 30)
  generalize (w.alloc (.cells #[.string D.name, .string D.help, .string D.unit, .slice a1 D.vars.length cap1, .slice a2 D.cons.length cap2] 30)) = w1 at *
  have hlt := (Array.getElem?_eq_some_iff.1 hA).1
  have KS : Hid (∀ x, Below w1.heap.size w1 x → (x.cell? ⟨w.heap.size, 0, none⟩ = some (.string D.name) ∧ x.cell? ⟨w.heap.size, 1, none⟩ = some (.string D.help) ∧ x.cell? ⟨w.heap.size, 2, none⟩ = some (.string D.unit) ∧ x.cell? ⟨w.heap.size, 3, none⟩ = some (.slice a1 D.vars.length cap1) ∧ x.cell? ⟨w.heap.size, 4, none⟩ = some (.slice a2 D.cons.length cap2))) := Lib.hid (fun x hx => by
    have h := (hx.block w.heap.size hlt).trans hA
    refine ⟨?_, ?_, ?_, ?_, ?_⟩ <;> (rw [Lib.cell_of_heap h]; rfl))
  have HB1 := Lib.hid hb1
  have HBW : Hid (∀ x, Below w1.heap.size w1 x → Below w.heap.size w x) := Lib.hid (fun x hx => HB1.out.trans (hx.mono HB1.out.size))
  have HLB : Hid (∀ x, Below w1.heap.size w1 x → Calls Tryz.prog 44 #[.slice a2 D.cons.length cap2] x fun e w' => SaidM D.cons x w' e) := Lib.hid (fun x hx => labelsK _ D.cons x (HV2.out.below (HBW.out x hx)) (fun y hy => tiny_fine (HS.out.cons y hy)))
  have HVV : Hid (∀ x, Below w1.heap.size w1 x → RdC Value.string x (.slice a1 D.vars.length cap1) D.vars) := Lib.hid (fun x hx => HV1.out.below (HBW.out x hx))
  have HDD : Hid (∀ x v mp, Below w1.heap.size w1 x → RdC Value.string x v D.vars → MapIs x mp D.cons → Calls Tryz.prog 47 #[.string D.name, .string D.help, .string D.unit, v, .map mp] x fun e w' => SaidD CU D x w' e) := Lib.hid (fun x v mp hx h1 h2 => doorDesc D v mp x h1 h2 HS.out (HVS.out.below (HBW.out x hx)))
  clear hA hb1
  go_region_held3 (fun x => x.cell? ⟨w.heap.size, 0, none⟩ = some (.string D.name) ∧ x.cell? ⟨w.heap.size, 1, none⟩ = some (.string D.help) ∧ x.cell? ⟨w.heap.size, 2, none⟩ = some (.string D.unit) ∧ x.cell? ⟨w.heap.size, 3, none⟩ = some (.slice a1 D.vars.length cap1) ∧ x.cell? ⟨w.heap.size, 4, none⟩ = some (.slice a2 D.cons.length cap2)) (exact KS.out _ (by repeat (first | assumption | exact Below.refl _ _ | apply Below.drew | refine Bw.alloc ?_ (Nat.le_refl _) _)))
    (first
      | (go_at_call 44
         refine (HLB.out _ (by repeat (first | assumption | exact Below.refl _ _ | apply Below.drew | refine Bw.alloc ?_ (Nat.le_refl _) _))).mono ?_
         rintro e wm ⟨⟨mv, rfl, hmv⟩, hbm⟩
         obtain ⟨mp, rfl, hmp⟩ := MapIs.of hmv
         have hb3 : Below w1.heap.size w1 wm := Below.trans (by repeat (first | assumption | exact Below.refl _ _ | apply Below.drew | refine Bw.alloc ?_ (Nat.le_refl _) _)) (hbm.mono (by assumption))
         have hs3 := hb3.size)
      | (go_at_call 47
         refine (HDD.out _ _ _ (by repeat (first | assumption | exact Below.refl _ _ | apply Below.drew | refine Bw.alloc ?_ (Nat.le_refl _) _)) ((RdC.of_owns (show World.ownsRow _ w1.heap.size _ 1 _ D.vars.length (D.vars.map Value.string) from by simpa using hown)).below hbm) hmp).mono ?_
         rintro e w4 ⟨P, rfl, hP, hb4, hg, hbad⟩
         have hb5 : Below w1.heap.size w1 w4 := hb3.trans (hb4.mono hs3)
         have hP2 : w.heap.size ≤ P := Nat.le_trans (Nat.le_trans (Nat.le_of_lt hlt) hs3) hP
         have hg' := Lib.hid hg
         have hbad' := Lib.hid hbad
         clear hb4 hP hg hbad)
      | (refine step_strs (by rfl) _ _ (by rfl) (B := w1.heap.size) (n := 0) (xs := []) (vars := D.vars) (by rfl) (by rfl) ⟨rfl, .inl ⟨rfl, rfl⟩⟩ (HVV.out _ (by repeat (first | assumption | exact Below.refl _ _ | apply Below.drew | refine Bw.alloc ?_ (Nat.le_refl _) _))) (by omega) (by simp) ?_
         intro nv wa hown hgr
         obtain ⟨na, nc, rfl, hnc⟩ := own_shapeL hown
         have hb2 : Below w1.heap.size w1 wa := Below.grown (by repeat (first | assumption | exact Below.refl _ _ | apply Below.drew | refine Bw.alloc ?_ (Nat.le_refl _) _)) hgr (by simp) (fun q hq => by cases hq)
         have hs2 := hb2.size))
  go_wp2_with fail
  go_ret
  exact ⟨P, rfl, hP2, HBW.out _ hb5, hg'.out, hbad'.out⟩
set_option maxRecDepth 100000 in
theorem errK (P : Nat) (er : Value) (w : World) (h : w.cell? ⟨P, 7, none⟩ = some er) (he : er = .nilIface ∨ IsErr er) : Calls Tryz.prog 31 #[.pointer (some ⟨P, 0, none⟩)] w fun e w' => e = .returned er ∧ w = w' := by
  rcases he with rfl | ⟨t, x, rfl⟩
  all_goals
    go_enter Tryz.func31, Tryz.ntmps31
    go_wp2_with fail
    go_ret
    exact ⟨rfl, rfl⟩
set_option maxHeartbeats 1600000 in
set_option maxRecDepth 100000 in
theorem metaValidK (D : Dsc) (v1 v2 : Value) (w : World) (hv1 : RdC Value.string w v1 D.vars) (hv2 : RdE w v2 D.cons) (hs : Small D) (hV : Vars w) :
    Calls Tryz.prog 9 #[MetaV D.name D.help D.unit v1 v2] w fun e w' => e = .returned (.bool (descOk D)) ∧ Below w.heap.size w w' := by
  have hb0 := (Below.refl _ w).alloc (Nat.le_refl _) (.cells #[.string D.name, .string D.help, .string D.unit, v1, v2] 30)
  have HD := Lib.hid (descK D v1 v2 _ (hv1.below hb0) (hv2.below hb0) hs (hV.below hb0))
  have HB0 := Lib.hid hb0
  clear hb0
  obtain ⟨a1, cap1, b1, o1, rfl, _⟩ := hv1
  obtain ⟨a2, cap2, b2, o2, rfl, _⟩ := hv2
  clear hs hV
  go_enter Tryz.func9, Tryz.ntmps9
  go_wp2_with (go_at_call 30; go_must (refine HD.out.mono ?_))
  rintro e w2 ⟨P, rfl, hP, hb2, hg, hbad⟩
  have hb3 := HB0.out.trans (hb2.mono HB0.out.size)
  cases hok : descOk D with
  | true =>
    have HOK := Lib.hid hok
    obtain ⟨Q, vv, lc, psv, _, hD, _⟩ := hg hok
    have HE := Lib.hid (errK P .nilIface w2 hD.c7 (.inl rfl))
    clear hg hbad hok hD hb2 hP
    go_wp2_with (go_at_call 31; go_must (refine HE.out.mono ?_); first | rintro e w5 rfl rfl | rintro e w5 ⟨rfl, rfl⟩)
    go_ret
    exact ⟨by rw [HOK.out]; rfl, hb3⟩
  | false =>
    have HOK := Lib.hid hok
    obtain ⟨er, h7, t, x, rfl⟩ := hbad hok
    have HE := Lib.hid (errK P (.iface t x) w2 h7 (.inr ⟨t, x, rfl⟩))
    have hq : ∀ z : World, Sem.run Tryz.prog (binOp BinOp.eql 55 (.iface t x) .nilIface) z = .ok (.bool false) z := fun _ => by kernel_rfl
    clear hg hbad hok h7 hb2 hP
    go_wp2_with (go_at_call 31; go_must (refine HE.out.mono ?_); first | rintro e w5 rfl rfl | rintro e w5 ⟨rfl, rfl⟩)
    go_ret
    exact ⟨by rw [HOK.out]; rfl, hb3⟩
end Go.Proofs.YtojlpfakdodnfaaGreatDoor
