/- DoorDim, impl.MetaAlike. -/
import Derived.Test.YtojlpfakdodnfaaGreatDoorAlk
import Derived.Test.YtojlpfakdodnfaaGreatDoorAlk3a
import Derived.Test.YtojlpfakdodnfaaGreatDoorMet2
set_option linter.unusedVariables false
set_option linter.unusedSimpArgs false
namespace Go.Proofs.YtojlpfakdodnfaaGreatDoor
open Go.RowKit

/-- A valid descriptor, as far as comparing asks. -/
structure DimAt (w : World) (P : Nat) (D : Dsc) : Prop where
  dim : w.cell? ⟨P, 6, none⟩ = some (.string ⟨(dimT D).toArray⟩)
  err : w.cell? ⟨P, 7, none⟩ = some .nilIface
theorem DimAt.drew {w : World} {P : Nat} {D : Dsc} (h : DimAt w P D) : DimAt w.drew P D := ⟨h.dim, h.err⟩
theorem DimAt.stp {x y : World} {P : Nat} {D : Dsc} (hs : Stp x y) (h : DimAt x P D) : DimAt y P D :=
  ⟨(Below.cell hs (p := ⟨P, 6, none⟩) (World.block_lt_of_cell? x _ h.dim)).trans h.dim, (Below.cell hs (p := ⟨P, 7, none⟩) (World.block_lt_of_cell? x _ h.err)).trans h.err⟩
def SaidDim (D : Dsc) (w w' : World) (e : Ending) : Prop := ∃ P, e = .returned (.pointer (some ⟨P, 0, none⟩)) ∧ DimAt w' P D ∧ Stp w w'
theorem descDim (D : Dsc) (v1 v2 : Value) (w : World) (hv1 : RdC Value.string w v1 D.vars) (hv2 : RdE w v2 D.cons) (hs : Small D) (hV : Vars w) (hok : descOk D = true) :
    Calls Tryz.prog 30 #[MetaV D.name D.help D.unit v1 v2] w fun e w' => SaidDim D w w' e := by
  refine (descK D v1 v2 w hv1 hv2 hs hV).mono ?_
  rintro e w' ⟨P, rfl, _, hb, hg, _⟩
  obtain ⟨Q, vv, lc, psv, _, hD, _⟩ := hg hok
  exact ⟨P, rfl, ⟨by rw [Lib.cell_of_heap hD]; rfl, hD.c7⟩, hb⟩
set_option maxRecDepth 100000 in
theorem doorDim (P : Nat) (s : ByteArray) (w : World) (h : w.cell? ⟨P, 6, none⟩ = some (.string s)) : Calls Tryz.prog 37 #[.pointer (some ⟨P, 0, none⟩)] w fun e w' => e = .returned (.string s) ∧ w = w' := by
  go_enter Tryz.func37, Tryz.ntmps37
  go_wp2_with fail
  go_ret
  exact ⟨rfl, rfl⟩
theorem dimB (a b : List UInt8) : ((⟨a.toArray⟩ : ByteArray).toList == (⟨b.toArray⟩ : ByteArray).toList) = decide (a = b) := by
  rw [eqB]
  by_cases h : a = b
  · subst h; simp
  · rw [decide_eq_false h]
    refine decide_eq_false fun e => h ?_
    injection e with e
    have := congrArg Array.toList e
    simpa using this
set_option maxHeartbeats 6400000 in
set_option maxRecDepth 100000 in
theorem metaAlikeK (A B : Dsc) (v1 v2 v3 v4 : Value) (w : World) (ha1 : RdC Value.string w v1 A.vars) (ha2 : RdE w v2 A.cons) (hb1 : RdC Value.string w v3 B.vars) (hb2 : RdE w v4 B.cons) (hsA : Small A) (hsB : Small B) (hV : Vars w) (hoA : descOk A = true) (hoB : descOk B = true) :
    Calls Tryz.prog 13 #[MetaV A.name A.help A.unit v1 v2, MetaV B.name B.help B.unit v3 v4] w fun e w' => e = .returned (.bool (decide (dimT A = dimT B))) ∧ Below w.heap.size w w' := by
  have hA := (Below.heap_alloc (w.alloc (.cells #[.string A.name, .string A.help, .string A.unit, v1, v2] 30)) (.cells #[.string B.name, .string B.help, .string B.unit, v3, v4] 30) w.heap.size (by simp)).trans (heap_alloc_new w (.cells #[.string A.name, .string A.help, .string A.unit, v1, v2] 30))
  have hZ := heap_alloc2_new w (.cells #[.string A.name, .string A.help, .string A.unit, v1, v2] 30) (.cells #[.string B.name, .string B.help, .string B.unit, v3, v4] 30)
  have hbw := ((Below.refl _ w).alloc (Nat.le_refl _) (.cells #[.string A.name, .string A.help, .string A.unit, v1, v2] 30)).alloc (by simp) (.cells #[.string B.name, .string B.help, .string B.unit, v3, v4] 30)
  have HA1 := Lib.hid ha1
  have HA2 := Lib.hid ha2
  have HB1 := Lib.hid hb1
  have HB2 := Lib.hid hb2
  have HSA := Lib.hid (And.intro hsA hsB)
  have HVS := Lib.hid hV
  have HOK := Lib.hid (And.intro hoA hoB)
  obtain ⟨p1, c1, b1, o1, rfl, _⟩ := ha1
  obtain ⟨p2, c2, b2, o2, rfl, _⟩ := ha2
  obtain ⟨p3, c3, b3, o3, rfl, _⟩ := hb1
  obtain ⟨p4, c4, b4, o4, rfl, _⟩ := hb2
  clear hsA hsB hV hoA hoB
  go_enter Tryz.func13, Tryz.ntmps13
  go_upto_region 1 with fail
  generalize ((w.alloc (.cells #[.string A.name, .string A.help, .string A.unit, .slice p1 A.vars.length c1, .slice p2 A.cons.length c2] 30)).alloc (.cells #[.string B.name, .string B.help, .string B.unit, .slice p3 B.vars.length c3, .slice p4 B.cons.length c4] 30)) = w1 at *
  have HBW := Lib.hid hbw
  have KS : Hid (∀ x, TB w1 x → (x.cell? ⟨w.heap.size, 0, none⟩ = some (.string A.name) ∧ x.cell? ⟨w.heap.size, 1, none⟩ = some (.string A.help) ∧ x.cell? ⟨w.heap.size, 2, none⟩ = some (.string A.unit) ∧ x.cell? ⟨w.heap.size, 3, none⟩ = some (.slice p1 A.vars.length c1) ∧ x.cell? ⟨w.heap.size, 4, none⟩ = some (.slice p2 A.cons.length c2) ∧ x.cell? ⟨w.heap.size + 1, 0, none⟩ = some (.string B.name) ∧ x.cell? ⟨w.heap.size + 1, 1, none⟩ = some (.string B.help) ∧ x.cell? ⟨w.heap.size + 1, 2, none⟩ = some (.string B.unit) ∧ x.cell? ⟨w.heap.size + 1, 3, none⟩ = some (.slice p3 B.vars.length c3) ∧ x.cell? ⟨w.heap.size + 1, 4, none⟩ = some (.slice p4 B.cons.length c4))) := Lib.hid (fun x hx => by
    have h := (Chg.of_below hx Non).obj hA (fun h => h)
    have k := (Chg.of_below hx Non).obj hZ (fun h => h)
    refine ⟨?_, ?_, ?_, ?_, ?_, ?_, ?_, ?_, ?_, ?_⟩ <;> first | (rw [Lib.cell_of_heap h]; rfl) | (rw [Lib.cell_of_heap k]; rfl))
  have HDD : Hid (∀ x D v, TB w1 x → (v = MetaV A.name A.help A.unit (.slice p1 A.vars.length c1) (.slice p2 A.cons.length c2) ∧ D = A ∨ v = MetaV B.name B.help B.unit (.slice p3 B.vars.length c3) (.slice p4 B.cons.length c4) ∧ D = B) → Calls Tryz.prog 30 #[v] x fun e w' => SaidDim D x w' e) := Lib.hid (fun x D v hx h => by
    have hb := HBW.out.trans (Below.mono hx HBW.out.size)
    rcases h with ⟨rfl, rfl⟩ | ⟨rfl, rfl⟩
    · exact descDim D _ _ x (HA1.out.below hb) (HA2.out.below hb) HSA.out.1 (HVS.out.below hb) HOK.out.1
    · exact descDim D _ _ x (HB1.out.below hb) (HB2.out.below hb) HSA.out.2 (HVS.out.below hb) HOK.out.2)
  clear hA hZ hbw
  go_cut [5, 6] (fun x5 x6 wx => ∃ P Q : Nat, x5 = .pointer (some ⟨P, 0, none⟩) ∧ x6 = .pointer (some ⟨Q, 0, none⟩) ∧ DimAt wx P A ∧ DimAt wx Q B ∧ TB w1 wx)
  case first =>
    go_region_held3 (fun x => x.cell? ⟨w.heap.size, 0, none⟩ = some (.string A.name) ∧ x.cell? ⟨w.heap.size, 1, none⟩ = some (.string A.help) ∧ x.cell? ⟨w.heap.size, 2, none⟩ = some (.string A.unit) ∧ x.cell? ⟨w.heap.size, 3, none⟩ = some (.slice p1 A.vars.length c1) ∧ x.cell? ⟨w.heap.size, 4, none⟩ = some (.slice p2 A.cons.length c2) ∧ x.cell? ⟨w.heap.size + 1, 0, none⟩ = some (.string B.name) ∧ x.cell? ⟨w.heap.size + 1, 1, none⟩ = some (.string B.help) ∧ x.cell? ⟨w.heap.size + 1, 2, none⟩ = some (.string B.unit) ∧ x.cell? ⟨w.heap.size + 1, 3, none⟩ = some (.slice p3 B.vars.length c3) ∧ x.cell? ⟨w.heap.size + 1, 4, none⟩ = some (.slice p4 B.cons.length c4))
      (exact KS.out _ (by repeat (first | assumption | exact TB.refl _ | apply TB.drew | refine TB.stp (by assumption) ?_)))
      ((go_at_call 30
        refine (HDD.out _ _ _ (by repeat (first | assumption | exact TB.refl _ | apply TB.drew | refine TB.stp (by assumption) ?_)) (by first | exact .inl ⟨rfl, rfl⟩ | exact .inr ⟨rfl, rfl⟩)).mono ?_
        rintro e wa ⟨Pa, rfl, hDa, hsa⟩))
    all_goals go_wp2_with fail
    all_goals go_meet
    all_goals exact ⟨_, _, rfl, rfl, by repeat (first | assumption | apply DimAt.drew | refine DimAt.stp (by assumption) ?_), by repeat (first | assumption | apply DimAt.drew | refine DimAt.stp (by assumption) ?_), by repeat (first | assumption | exact TB.refl _ | apply TB.drew | refine TB.stp (by assumption) ?_)⟩
  case rest =>
    obtain ⟨P, Q, rfl, rfl, hDa, hDb, hbc⟩ := hcut
    generalize wc = w5 at *
    have HFIN : Hid (Below w.heap.size w w5) := Lib.hid (HBW.out.trans (Below.mono hbc HBW.out.size))
    have HER : Hid (∀ x, (x = P ∨ x = Q) → Calls Tryz.prog 31 #[.pointer (some ⟨x, 0, none⟩)] w5 fun e w' => e = .returned .nilIface ∧ w5 = w') := Lib.hid (fun x h => by
      rcases h with rfl | rfl
      · exact errK _ .nilIface w5 hDa.err (.inl rfl)
      · exact errK _ .nilIface w5 hDb.err (.inl rfl))
    have HDI : Hid (∀ x r, (x = P ∧ r = (⟨(dimT A).toArray⟩ : ByteArray) ∨ x = Q ∧ r = (⟨(dimT B).toArray⟩ : ByteArray)) → Calls Tryz.prog 37 #[.pointer (some ⟨x, 0, none⟩)] w5 fun e w' => e = .returned (.string r) ∧ w5 = w') := Lib.hid (fun x r h => by
      rcases h with ⟨rfl, rfl⟩ | ⟨rfl, rfl⟩
      · exact doorDim _ _ w5 hDa.dim
      · exact doorDim _ _ w5 hDb.dim)
    have HEQ := Lib.hid (dimB (dimT A) (dimT B))
    generalize (⟨(dimT A).toArray⟩ : ByteArray) = s at *
    generalize (⟨(dimT B).toArray⟩ : ByteArray) = t at *
    clear hDa hDb hbc HDD KS
    go_wp2_with (first
      | (go_at_call 31; go_must (refine (HER.out _ (by first | exact .inl rfl | exact .inr rfl)).mono ?_); first | rintro e w6 rfl rfl | rintro e w6 ⟨rfl, rfl⟩)
      | (go_at_call 37; go_must (refine (HDI.out _ _ (by first | exact .inl ⟨rfl, rfl⟩ | exact .inr ⟨rfl, rfl⟩)).mono ?_); first | rintro e w6 rfl rfl | rintro e w6 ⟨rfl, rfl⟩))
    go_ret
    exact ⟨ret_bool HEQ.out, HFIN.out⟩
end Go.Proofs.YtojlpfakdodnfaaGreatDoor
