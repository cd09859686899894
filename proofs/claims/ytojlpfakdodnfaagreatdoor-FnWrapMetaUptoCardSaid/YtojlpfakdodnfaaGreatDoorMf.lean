/- metaFrom. -/
import Derived.Test.YtojlpfakdodnfaaGreatDoorLpf
import Derived.Test.YtojlpfakdodnfaaGreatDoorMet
set_option linter.unusedVariables false
set_option linter.unusedSimpArgs false
namespace Go.Proofs.YtojlpfakdodnfaaGreatDoor
open Go.RowKit

set_option maxHeartbeats 6400000 in
set_option maxRecDepth 100000 in
theorem metaFromK (D : Dsc) (v1 v2 : Value) (w : World) (hv1 : RdC Value.string w v1 D.vars) (hv2 : RdE w v2 D.cons) (hl1 : D.vars.length ≤ 4194304) (hl2 : D.cons.length ≤ 4194304) :
    Calls Tryz.prog 26 #[MetaV D.name D.help D.unit v1 v2] w fun e w' => SaidMeta D w w' e := by
  have HV1 := Lib.hid hv1
  have HV2 := Lib.hid hv2
  obtain ⟨a1, cap1, b1, o1, rfl, _⟩ := hv1
  obtain ⟨a2, cap2, b2, o2, rfl, _⟩ := hv2
  go_enter Tryz.func26, Tryz.ntmps26
  go_upto_region 1 with fail
  have hA := heap_alloc_new w (.cells #[.string D.name, .string D.help, .string D.unit, .slice a1 D.vars.length cap1, .slice a2 D.cons.length cap2] 30)
  have hZ := heap_alloc2_new w (.cells #[.string D.name, .string D.help, .string D.unit, .slice a1 D.vars.length cap1, .slice a2 D.cons.length cap2] 30) (.cells #[.string ⟨#[]⟩, .string ⟨#[]⟩, .string ⟨#[]⟩, .slice none 0 0, .slice none 0 0] 25)
  have hb1 := ((Below.refl _ w).alloc (Nat.le_refl _) (.cells #[.string D.name, .string D.help, .string D.unit, .slice a1 D.vars.length cap1, .slice a2 D.cons.length cap2] 30)).alloc (by simp) (.cells #[.string ⟨#[]⟩, .string ⟨#[]⟩, .string ⟨#[]⟩, .slice none 0 0, .slice none 0 0] 25)
  have hA2 := (Below.heap_alloc (w.alloc (.cells #[.string D.name, .string D.help, .string D.unit, .slice a1 D.vars.length cap1, .slice a2 D.cons.length cap2] 30)) (.cells #[.string ⟨#[]⟩, .string ⟨#[]⟩, .string ⟨#[]⟩, .slice none 0 0, .slice none 0 0] 25) w.heap.size (by simp)).trans hA
  generalize ((w.alloc (.cells #[.string D.name, .string D.help, .string D.unit, .slice a1 D.vars.length cap1, .slice a2 D.cons.length cap2] 30)).alloc (.cells #[.string ⟨#[]⟩, .string ⟨#[]⟩, .string ⟨#[]⟩, .slice none 0 0, .slice none 0 0] 25)) = w1 at *
  clear hA
  have hR0 : Rl w1 (w.heap.size + 1) 5 25 w1 := ⟨Below.refl _ _, _, hZ, rfl⟩
  have KS : Hid (∀ x, Rl w1 (w.heap.size + 1) 5 25 x → (x.cell? ⟨w.heap.size, 0, none⟩ = some (.string D.name) ∧ x.cell? ⟨w.heap.size, 1, none⟩ = some (.string D.help) ∧ x.cell? ⟨w.heap.size, 2, none⟩ = some (.string D.unit) ∧ x.cell? ⟨w.heap.size, 3, none⟩ = some (.slice a1 D.vars.length cap1) ∧ x.cell? ⟨w.heap.size, 4, none⟩ = some (.slice a2 D.cons.length cap2) ∧ x.cell? ⟨w.heap.size + 1, 0, none⟩ = some (cellV x ⟨w.heap.size + 1, 0, none⟩) ∧ x.cell? ⟨w.heap.size + 1, 1, none⟩ = some (cellV x ⟨w.heap.size + 1, 1, none⟩) ∧ x.cell? ⟨w.heap.size + 1, 2, none⟩ = some (cellV x ⟨w.heap.size + 1, 2, none⟩) ∧ x.cell? ⟨w.heap.size + 1, 3, none⟩ = some (cellV x ⟨w.heap.size + 1, 3, none⟩) ∧ x.cell? ⟨w.heap.size + 1, 4, none⟩ = some (cellV x ⟨w.heap.size + 1, 4, none⟩) ∧ x.frozen? ⟨w.heap.size + 1, 0, none⟩ = false ∧ x.frozen? ⟨w.heap.size + 1, 1, none⟩ = false ∧ x.frozen? ⟨w.heap.size + 1, 2, none⟩ = false ∧ x.frozen? ⟨w.heap.size + 1, 3, none⟩ = false ∧ x.frozen? ⟨w.heap.size + 1, 4, none⟩ = false)) := Lib.hid (fun x hx => by
    have h := (hx.below.block w.heap.size (by omega)).trans hA2
    refine ⟨?_, ?_, ?_, ?_, ?_, hx.cv 0 (by omega), hx.cv 1 (by omega), hx.cv 2 (by omega), hx.cv 3 (by omega), hx.cv 4 (by omega), hx.fz 0, hx.fz 1, hx.fz 2, hx.fz 3, hx.fz 4⟩ <;> (rw [Lib.cell_of_heap h]; rfl))
  have HB1 := Lib.hid hb1
  have HBW : Hid (∀ x, Rl w1 (w.heap.size + 1) 5 25 x → Below w.heap.size w x) := Lib.hid (fun x hx => HB1.out.trans (hx.below.mono (by omega)))
  have HP2 : Hid (∀ x, Rl w1 (w.heap.size + 1) 5 25 x → Calls Tryz.prog 19 #[.slice a2 D.cons.length cap2] x fun e w' => SaidPO D.cons x w' e) := Lib.hid (fun x hx => pairsFromK _ D.cons x (HV2.out.below (HBW.out x hx)) (by omega))
  have HVV : Hid (∀ x, Rl w1 (w.heap.size + 1) 5 25 x → RdC Value.string x (.slice a1 D.vars.length cap1) D.vars) := Lib.hid (fun x hx => HV1.out.below (HBW.out x hx))
  clear hA2 hb1 hZ
  go_region_held3 (fun x => x.cell? ⟨w.heap.size, 0, none⟩ = some (.string D.name) ∧ x.cell? ⟨w.heap.size, 1, none⟩ = some (.string D.help) ∧ x.cell? ⟨w.heap.size, 2, none⟩ = some (.string D.unit) ∧ x.cell? ⟨w.heap.size, 3, none⟩ = some (.slice a1 D.vars.length cap1) ∧ x.cell? ⟨w.heap.size, 4, none⟩ = some (.slice a2 D.cons.length cap2) ∧ x.cell? ⟨w.heap.size + 1, 0, none⟩ = some (cellV x ⟨w.heap.size + 1, 0, none⟩) ∧ x.cell? ⟨w.heap.size + 1, 1, none⟩ = some (cellV x ⟨w.heap.size + 1, 1, none⟩) ∧ x.cell? ⟨w.heap.size + 1, 2, none⟩ = some (cellV x ⟨w.heap.size + 1, 2, none⟩) ∧ x.cell? ⟨w.heap.size + 1, 3, none⟩ = some (cellV x ⟨w.heap.size + 1, 3, none⟩) ∧ x.cell? ⟨w.heap.size + 1, 4, none⟩ = some (cellV x ⟨w.heap.size + 1, 4, none⟩) ∧ x.frozen? ⟨w.heap.size + 1, 0, none⟩ = false ∧ x.frozen? ⟨w.heap.size + 1, 1, none⟩ = false ∧ x.frozen? ⟨w.heap.size + 1, 2, none⟩ = false ∧ x.frozen? ⟨w.heap.size + 1, 3, none⟩ = false ∧ x.frozen? ⟨w.heap.size + 1, 4, none⟩ = false)
    (exact KS.out _ (by repeat (first | assumption | apply Rl.drew | apply Rl.alloc | apply Rl.set)))
    (first
      | (go_at_call 19
         refine (HP2.out _ (by repeat (first | assumption | apply Rl.drew | apply Rl.alloc | apply Rl.set))).mono ?_
         rintro e wp ⟨⟨pv, rfl, hpv⟩, hbp⟩
         obtain ⟨pa, pc, rfl, hpc⟩ := own_shapeL hpv
         have hRp : Rl w1 (w.heap.size + 1) 5 25 wp := Rl.then (by repeat (first | assumption | apply Rl.drew | apply Rl.alloc | apply Rl.set)) hbp)
      | (refine step_strs (by rfl) _ _ (by rfl) (B := w1.heap.size) (n := 0) (xs := []) (vars := D.vars) (by rfl) (by rfl) (rowNew w1.drew w1.heap.size (Nat.le_refl _)) (HVV.out _ (by repeat (first | assumption | apply Rl.drew | apply Rl.alloc | apply Rl.set))) (by omega) (by simp) ?_
         intro nv wa hown hgr
         obtain ⟨na, nc, rfl, hnc⟩ := own_shapeL hown
         have hRa : Rl w1 (w.heap.size + 1) 5 25 wa := Rl.grown (by repeat (first | assumption | apply Rl.drew | apply Rl.alloc | apply Rl.set)) hgr (fun q hq => by have h1 := Option.some.inj (show some w1.heap.size = some q from hq); have := hR0.lt; omega)))
  obtain ⟨cs, hcs, hcz⟩ := hRp.row
  have hfin := row5 hcs hcz (.string D.name) (.string D.help) (.string D.unit) (.slice na D.vars.length nc) (.slice pa D.cons.length pc)
  have hcS : Chg (fun i => i = w.heap.size + 1) wp _ := (((((Chg.refl (fun i => i = w.heap.size + 1) wp).setCell (p := ⟨w.heap.size + 1, 0, none⟩) (.inl rfl) (.string D.name)).setCell (p := ⟨w.heap.size + 1, 1, none⟩) (.inl rfl) (.string D.help)).setCell (p := ⟨w.heap.size + 1, 2, none⟩) (.inl rfl) (.string D.unit)).setCell (p := ⟨w.heap.size + 1, 3, none⟩) (.inl rfl) (.slice na D.vars.length nc)).setCell (p := ⟨w.heap.size + 1, 4, none⟩) (.inl rfl) (.slice pa D.cons.length pc)
  have hra := (Chg.of_below hbp Non).row hown (fun q _ h => h)
  have hrb := hcS.row hra (fun q hq e => by have h1 := (row_from hown q hq).1; have h2 : q = w.heap.size + 1 := e; have := hR0.lt; omega)
  have hrc := hcS.row hpv (fun q hq e => by have h1 := (row_from hpv q hq).1; have h2 : q = w.heap.size + 1 := e; have := hRa.lt; omega)
  have HRB := Lib.hid (RdC.of_owns (by simpa using hrb))
  have HRC := Lib.hid (RdE.of_owns hrc)
  have HBB := Lib.hid (HBW.out _ (((((hRp.set 0 (.string D.name)).set 1 (.string D.help)).set 2 (.string D.unit)).set 3 (.slice na D.vars.length nc)).set 4 (.slice pa D.cons.length pc)))
  clear hra hrb hrc hcS hcs hcz hown hpv
  go_wp2_with fail
  refine bodyPost_ret (results_cell_row rfl _ _ (w.heap.size + 1) 25 #[.string D.name, .string D.help, .string D.unit, .slice na D.vars.length nc, .slice pa D.cons.length pc] (0, 0) _ rfl hfin Tryz.underlying25 rfl (by kernel_rfl)) rfl ?_
  exact ⟨⟨_, _, rfl, HRB.out, HRC.out⟩, HBB.out⟩
end Go.Proofs.YtojlpfakdodnfaaGreatDoor
