/-
  DERIVED. GIVEN WITH THE SEED: THE CARDS: each row of YtojlpfakdodnfaaGreatDoorRows.lean that lists a variable, with what it lists TIED to the program's text (the seventh form; the later family's looks); each row that meets fmt, with fmt's text TOLD by the authors' own Lean function (tested against real Go, not proved from fmt's source: count such statements apart). THE CARD IS WHAT COUNTS. Prove the row's statement (the work); the ties are given (YtojlpfakdodnfaaGreatDoorTie.lean); close each card by the builder's one call (the guide's Derived/Test/ToyasCard.lean, 'card_holds'). Laid BY PROGRAM, IN A SANDBOX (cutbox-door.mjs). By AI agents, Wed Nov 11 2026. No macro, syntax, notation, axiom, sorry.
-/
import Derived.Test.YtojlpfakdodnfaaGreatDoorRows
import GoSem.ClaimSeven
namespace Go.Proofs.YtojlpfakdodnfaaGreatDoor
namespace Rows

/-- THE TIED CARD OF 'laws.FnMetaValid'. -/
def fnMetaValidCard : Claim7 := { stood := { row := fnMetaValidRow, standIns := [], harness := (true, "07e64a037de1db9bd4961928678364d1bdc13fd13829f79414340fac3fa53fd1"), looks := false }, kinds := [], alts := [], laidByText := true, laidKinds := [.data, .sentinel, .widerDeep, .wider, .pinned], laidTests := true, laidLooks := .later }
def FnMetaValidCardSaid : Prop := Claim7.holds Tryz.pinned (.plain (OpenSpec.ofChange fnMetaValidSpec)) fnMetaValidCard

/-- THE TIED CARD OF 'laws.FnMetaAlike'. -/
def fnMetaAlikeCard : Claim7 := { stood := { row := fnMetaAlikeRow, standIns := [], harness := (true, "07e64a037de1db9bd4961928678364d1bdc13fd13829f79414340fac3fa53fd1"), looks := false }, kinds := [], alts := [], laidByText := true, laidKinds := [.data, .sentinel, .widerDeep, .wider, .pinned], laidTests := true, laidLooks := .later }
def FnMetaAlikeCardSaid : Prop := Claim7.holds Tryz.pinned (.plain (OpenSpec.ofChange fnMetaAlikeSpec)) fnMetaAlikeCard

/-- THE TIED CARD OF 'laws.FnLabelPairs'. -/
def fnLabelPairsCard : Claim7 := { stood := { row := fnLabelPairsRow, standIns := [], harness := (true, "07e64a037de1db9bd4961928678364d1bdc13fd13829f79414340fac3fa53fd1"), looks := false }, kinds := [], alts := [], laidByText := true, laidKinds := [.data, .sentinel, .widerDeep, .wider, .pinned], laidTests := true, laidLooks := .later }
def FnLabelPairsCardSaid : Prop := Claim7.holds Tryz.pinned (.plain (OpenSpec.ofChange fnLabelPairsSpec)) fnLabelPairsCard

/-- THE TIED CARD OF 'laws.FnWrapMeta'. -/
def fnWrapMetaCard : Claim7 := { stood := { row := fnWrapMetaRow, standIns := [], harness := (true, "07e64a037de1db9bd4961928678364d1bdc13fd13829f79414340fac3fa53fd1"), looks := false }, kinds := [], alts := [], laidByText := true, laidKinds := [.data, .sentinel, .widerDeep, .wider, .pinned], laidTests := true, laidLooks := .later }
def FnWrapMetaCardSaid : Prop := Claim7.holds Tryz.pinned (.plain (OpenSpec.ofChange fnWrapMetaSpec)) fnWrapMetaCard

/-- THE SECOND FORM's CARD OF 'laws.FnMetaValid'. -/
def fnMetaValidUptoCard : Claim7 := { stood := { row := fnMetaValidUptoRow, standIns := [], harness := (true, "07e64a037de1db9bd4961928678364d1bdc13fd13829f79414340fac3fa53fd1"), looks := false }, kinds := [], alts := [], laidByText := true, laidKinds := [.data, .sentinel, .widerDeep, .wider, .pinned], laidTests := true, laidLooks := .later }
def FnMetaValidUptoCardSaid : Prop := Claim7.holds Tryz.pinned (.plain (OpenSpec.upto fnMetaValidSpec)) fnMetaValidUptoCard

/-- THE SECOND FORM's CARD OF 'laws.FnMetaAlike'. -/
def fnMetaAlikeUptoCard : Claim7 := { stood := { row := fnMetaAlikeUptoRow, standIns := [], harness := (true, "07e64a037de1db9bd4961928678364d1bdc13fd13829f79414340fac3fa53fd1"), looks := false }, kinds := [], alts := [], laidByText := true, laidKinds := [.data, .sentinel, .widerDeep, .wider, .pinned], laidTests := true, laidLooks := .later }
def FnMetaAlikeUptoCardSaid : Prop := Claim7.holds Tryz.pinned (.plain (OpenSpec.upto fnMetaAlikeSpec)) fnMetaAlikeUptoCard

/-- THE SECOND FORM's CARD OF 'laws.FnLabelPairs'. -/
def fnLabelPairsUptoCard : Claim7 := { stood := { row := fnLabelPairsUptoRow, standIns := [], harness := (true, "07e64a037de1db9bd4961928678364d1bdc13fd13829f79414340fac3fa53fd1"), looks := false }, kinds := [], alts := [], laidByText := true, laidKinds := [.data, .sentinel, .widerDeep, .wider, .pinned], laidTests := true, laidLooks := .later }
def FnLabelPairsUptoCardSaid : Prop := Claim7.holds Tryz.pinned (.plain (OpenSpec.upto fnLabelPairsSpec)) fnLabelPairsUptoCard

/-- THE SECOND FORM's CARD OF 'laws.FnWrapMeta'. -/
def fnWrapMetaUptoCard : Claim7 := { stood := { row := fnWrapMetaUptoRow, standIns := [], harness := (true, "07e64a037de1db9bd4961928678364d1bdc13fd13829f79414340fac3fa53fd1"), looks := false }, kinds := [], alts := [], laidByText := true, laidKinds := [.data, .sentinel, .widerDeep, .wider, .pinned], laidTests := true, laidLooks := .later }
def FnWrapMetaUptoCardSaid : Prop := Claim7.holds Tryz.pinned (.plain (OpenSpec.upto fnWrapMetaSpec)) fnWrapMetaUptoCard
end Rows
end Go.Proofs.YtojlpfakdodnfaaGreatDoor
