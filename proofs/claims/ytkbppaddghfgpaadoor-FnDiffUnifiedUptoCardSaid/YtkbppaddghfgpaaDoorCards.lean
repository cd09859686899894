/-
  DERIVED. GIVEN WITH THE SEED: THE CARDS: each row of YtkbppaddghfgpaaDoorRows.lean that lists a variable, with what it lists TIED to the program's text (the seventh form; the later family's looks); each row that meets fmt, with fmt's text TOLD by the authors' own Lean function (tested against real Go, not proved from fmt's source: count such statements apart). THE CARD IS WHAT COUNTS. Prove the row's statement (the work); the ties are given (YtkbppaddghfgpaaDoorTie.lean); close each card by the builder's one call (the guide's Derived/Test/ToyasCard.lean, 'card_holds'). Laid BY PROGRAM, IN A SANDBOX (cutbox-door.mjs). By AI agents, Wed Nov 11 2026. No macro, syntax, notation, axiom, sorry.
-/
import Derived.Test.YtkbppaddghfgpaaDoorRows
import GoSem.ClaimSeven
namespace Go.Proofs.YtkbppaddghfgpaaDoor
namespace Rows

/-- THE TIED CARD OF 'laws.FnDiffUnified'. -/
def fnDiffUnifiedCard : Claim7 := { stood := { row := fnDiffUnifiedRow, standIns := [], harness := (true, "50e24b3e1147ab260725c5f27a32f2c54c87abb340b68154fcf96bad5b6fc5c0"), looks := false }, kinds := [], alts := [], laidByText := true, laidKinds := [.data, .data, .data], laidTests := true, laidLooks := .later }
def FnDiffUnifiedCardSaid : Prop := Claim7.holds Tryd.pinned (.plain (OpenSpec.ofChange fnDiffUnifiedSpec)) fnDiffUnifiedCard

/-- THE SECOND FORM's CARD OF 'laws.FnDiffUnified'. -/
def fnDiffUnifiedUptoCard : Claim7 := { stood := { row := fnDiffUnifiedUptoRow, standIns := [], harness := (true, "50e24b3e1147ab260725c5f27a32f2c54c87abb340b68154fcf96bad5b6fc5c0"), looks := false }, kinds := [], alts := [], laidByText := true, laidKinds := [.data, .data, .data], laidTests := true, laidLooks := .later }
def FnDiffUnifiedUptoCardSaid : Prop := Claim7.holds Tryd.pinned (.plain (OpenSpec.upto fnDiffUnifiedSpec)) fnDiffUnifiedUptoCard
end Rows
end Go.Proofs.YtkbppaddghfgpaaDoor
