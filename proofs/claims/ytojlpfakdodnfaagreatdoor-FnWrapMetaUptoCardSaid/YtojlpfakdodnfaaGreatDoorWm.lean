/- DoorWrap, DoorParts, impl.WrapMeta. -/
import Derived.Test.YtojlpfakdodnfaaGreatDoorWd
import Derived.Test.YtojlpfakdodnfaaGreatDoorLpd
set_option linter.unusedVariables false
set_option linter.unusedSimpArgs false
namespace Go.Proofs.YtojlpfakdodnfaaGreatDoor
open Go.RowKit

set_option maxRecDepth 100000 in
theorem doorWrap (D : Dsc) (CQ : Nat → Value → Value → Prop) (P : Nat) (p : ByteArray) (lp : Option Nat) (L : List Ent) (w : World) (hg : Good w P CQ D) (hM : MapIs w lp L) (hs : Small D) (hV : Vars w) (hS : SayOk D) (hnm : plain (p ++ D.name) = true) (hL : PlainAll L) (hLT : ∀ x ∈ L, Tiny x) (hLl : L.length ≤ 1048576) (hp : p.size ≤ 1048576) :
    Calls Tryz.prog 43 #[.pointer (some ⟨P, 0, none⟩), .string p, .map lp] w fun e w' => SaidWr D (p ++ D.name) L w w' e := by
  have HW := Lib.hid (wrapK D CQ P p lp L w hg hM hs hV hS hnm hL hLT hLl hp)
  clear hg hM hs hV hS hnm hL hLT hLl hp
  go_enter Tryz.func43, Tryz.ntmps43
  go_wp2_with (go_at_call 53; go_must (refine HW.out.mono ?_))
  rintro e w2 ⟨P', rfl, hs2, hg2, hb2⟩
  have HS2 := Lib.hid hs2
  have HG2 := Lib.hid hg2
  have HB2 := Lib.hid hb2
  clear hs2 hg2 hb2
  go_wp2_with fail
  go_ret
  exact ⟨P', rfl, HS2.out, HG2.out, HB2.out⟩
/-- What DoorParts answers. -/
def SaidParts (D : Dsc) (w w' : World) (e : Ending) : Prop := ∃ vv psv, e = .returned (.tuple #[.string D.name, .string D.help, .string D.unit, vv, psv]) ∧ RdC Value.string w' vv D.vars ∧ RdLP w' psv (fit D.cons) ∧ Stp w w'
set_option maxHeartbeats 1600000 in
set_option maxRecDepth 100000 in
theorem doorParts (D : Dsc) (CQ : Nat → Value → Value → Prop) (P : Nat) (w : World) (hg : Good w P CQ D) :
    Calls Tryz.prog 45 #[.pointer (some ⟨P, 0, none⟩)] w fun e w' => SaidParts D w w' e := by
  obtain ⟨Q, vv, lc, psv, _, hD, hQ, hvv, hps⟩ := hg
  have HVV := Lib.hid hvv
  have HPS := Lib.hid hps
  obtain ⟨a1, c1, rfl⟩ : ∃ a c, vv = .slice a D.vars.length c := by
    obtain ⟨a, c, _, _, rfl, _⟩ := hvv
    exact ⟨a, c, rfl⟩
  obtain ⟨a2, c2, rfl⟩ := hps.shape
  have k0 : w.cell? ⟨P, 0, none⟩ = some (.string D.name) := by rw [Lib.cell_of_heap hD]; rfl
  have k1 : w.cell? ⟨P, 1, none⟩ = some (.string D.help) := by rw [Lib.cell_of_heap hD]; rfl
  have k2 : w.cell? ⟨P, 2, none⟩ = some (.string D.unit) := by rw [Lib.cell_of_heap hD]; rfl
  have k3 : w.cell? ⟨P, 3, none⟩ = some (.slice a2 (fit D.cons).length c2) := by rw [Lib.cell_of_heap hD]; rfl
  have k4 : w.cell? ⟨P, 4, none⟩ = some (.pointer (some ⟨Q, 0, none⟩)) := by rw [Lib.cell_of_heap hD]; rfl
  have k5 : w.cell? ⟨Q, 0, none⟩ = some (.slice a1 D.vars.length c1) := by rw [Lib.cell_of_heap hQ]; rfl
  clear hD hQ hvv hps
  go_enter Tryz.func45, Tryz.ntmps45
  go_upto_region 1 with fail
  go_quiet (fail)
  go_wp2_with fail
  refine bodyPost_ret (v := .tuple #[.string D.name, .string D.help, .string D.unit, .slice a1 D.vars.length c1, .slice a2 (fit D.cons).length c2]) (by kernel_rfl) rfl ?_
  exact ⟨_, _, rfl, HVV.out.below (below_drewN (Below.refl _ _) _), HPS.out.below (below_drewN (Below.refl _ _) _), below_drewN (Below.refl _ _) _⟩
end Go.Proofs.YtojlpfakdodnfaaGreatDoor
