/- Steps that only make memory. -/
import Derived.Test.YtojlpfakdodnfaaGreatDoorPrs
import Derived.Test.YtojlpfakdodnfaaGreatDoorSl
import Derived.Test.YtojlpfakdodnfaaGreatDoorChg
set_option linter.unusedVariables false
set_option linter.unusedSimpArgs false
namespace Go.Proofs.YtojlpfakdodnfaaGreatDoor
open Go.RowKit

/-- One step of a walk that only makes memory; and all steps since a world. -/
def Stp (w x : World) : Prop := Below w.heap.size w x
def TB (w x : World) : Prop := Below w.heap.size w x
theorem TB.refl (w : World) : TB w w := Below.refl _ _
theorem TB.drew {w x : World} (h : TB w x) : TB w x.drew := Below.drew h
theorem TB.stp {w x y : World} (hs : Stp x y) (h : TB w x) : TB w y := Below.trans h (Below.mono hs (Below.size h))
/-- What a slice holds, as a structure: a unifier that compares two of them does not look inside. -/
structure KC (w : World) (v : Value) (xs : List ByteArray) : Prop where
  rd : RdC Value.string w v xs
structure KE (w : World) (v : Value) (xs : List Ent) : Prop where
  rd : RdE w v xs
theorem KC.drew {w : World} {v : Value} {xs : List ByteArray} (h : KC w v xs) : KC w.drew v xs := ⟨h.rd.below (Below.drew (Below.refl _ _))⟩
theorem KC.stp {x y : World} {v : Value} {xs : List ByteArray} (hs : Stp x y) (h : KC x v xs) : KC y v xs := ⟨h.rd.below hs⟩
theorem KE.drew {w : World} {v : Value} {xs : List Ent} (h : KE w v xs) : KE w.drew v xs := ⟨h.rd.below (Below.drew (Below.refl _ _))⟩
theorem KE.stp {x y : World} {v : Value} {xs : List Ent} (hs : Stp x y) (h : KE x v xs) : KE y v xs := ⟨h.rd.below hs⟩
end Go.Proofs.YtojlpfakdodnfaaGreatDoor
