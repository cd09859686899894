/-
  No cell of these rows narrows 'for every input' (looked for: loops, veiled, ifaces, maps, wideKeys, modest, calm, conditions, laid).
  DERIVED. THE GIVEN ROWS OF THIS SEAT. 5 by the template 'for every input the law returns true; each argument reads behind the call as it read before'; 0 by the template 'total and deterministic' (their statements: YtkbppaddghfgpaaTotals.lean).
  GIVEN WITH THE SEED: the statements are not yours to turn. If you find one false, say at which input.
  Laid BY PROGRAM, IN A SANDBOX (cutbox-rows.mjs): the forced cells as the released guide's own fill.sh prints them over the translation 5b43eb5aaf737c6a… (all of the seat's roots in one cut). By AI agents, Wed Nov 11 2026. No macro, syntax, notation, axiom, sorry.
-/
import Derived.Test.YtkbppaddghfgpaaChecked
import GoSem.Claim
import GoSem.ClaimJoined
import GoSem.ClaimMapViews
import Derived.JoinedTies
import Derived.KernelRfl
namespace Go.Proofs.Ytkbppaddghfgpaa
/- THE CELL 'sum', in the pinned program and in every row, IS THE sha256 OF THE DUMP (.gsa) THAT YtkbppaddghfgpaaProg.lean LOADS. Nothing in Lean hashes anything: it is a label: what it is worth is what the hold of that sum in a sandbox is worth. -/
noncomputable def Try.pinned : Pinned := { name := "ytkbppaddghfgpaa", sum := "5b43eb5aaf737c6a67e3f05b50a2e61f47a445ff4a1662acd38c324d525b82b6", checked := Try.checked }
namespace Rows
def none {H : Type} : Left H := { results := [], args := [] }

/-- 'laws.FnAcceptChosen': WHATEVER THE INPUT: true; the input reads as it did. -/
def fnAcceptChosenSpec : ChangeSpec := { name := "fnAcceptChosen", fn := fun _ => fun
  | [d1, d2, d3, d4] => { results := [.lit (.bool true)], args := [d1, d2, d3, d4] }
  | _ => none }
def fnAcceptChosenRow : OpenClaim := { program := "ytkbppaddghfgpaa", sum := "5b43eb5aaf737c6a67e3f05b50a2e61f47a445ff4a1662acd38c324d525b82b6", func := "pub-dialplate/laws.FnAcceptChosen", spec := "fnAcceptChosen", apart := false }
def FnAcceptChosenSaid : Prop := fnAcceptChosenRow.holds Try.pinned (OpenSpec.ofChange fnAcceptChosenSpec)

/-- ITS FALSE NEIGHBOUR: 'it returns false'. Refute it at one input. -/
def fnAcceptChosenWrong : ChangeSpec := { name := "fnAcceptChosen", fn := fun _ => fun
  | [d1, d2, d3, d4] => { results := [.lit (.bool false)], args := [d1, d2, d3, d4] }
  | _ => none }
def FnAcceptChosenWrongFalsely : Prop := fnAcceptChosenRow.holds Try.pinned (OpenSpec.ofChange fnAcceptChosenWrong)

/-- 'laws.FnPickSchemaOrder': WHATEVER THE INPUT: true; the input reads as it did. -/
def fnPickSchemaOrderSpec : ChangeSpec := { name := "fnPickSchemaOrder", fn := fun _ => fun
  | [d1, d2] => { results := [.lit (.bool true)], args := [d1, d2] }
  | _ => none }
def fnPickSchemaOrderRow : OpenClaim := { program := "ytkbppaddghfgpaa", sum := "5b43eb5aaf737c6a67e3f05b50a2e61f47a445ff4a1662acd38c324d525b82b6", func := "pub-dialplate/laws.FnPickSchemaOrder", spec := "fnPickSchemaOrder", inPlace := ["math.Float64bits", "math.Float64frombits", "math.archLog", "math.archFloor", "math.archTrunc"], apart := false }
def FnPickSchemaOrderSaid : Prop := fnPickSchemaOrderRow.holds Try.pinned (OpenSpec.ofChange fnPickSchemaOrderSpec)

/-- ITS FALSE NEIGHBOUR: 'it returns false'. Refute it at one input. -/
def fnPickSchemaOrderWrong : ChangeSpec := { name := "fnPickSchemaOrder", fn := fun _ => fun
  | [d1, d2] => { results := [.lit (.bool false)], args := [d1, d2] }
  | _ => none }
def FnPickSchemaOrderWrongFalsely : Prop := fnPickSchemaOrderRow.holds Try.pinned (OpenSpec.ofChange fnPickSchemaOrderWrong)

/-- 'laws.FnDiffBlocks': WHATEVER THE INPUT: true; the input reads as it did. -/
def fnDiffBlocksSpec : ChangeSpec := { name := "fnDiffBlocks", fn := fun _ => fun
  | [d1, d2] => { results := [.lit (.bool true)], args := [d1, d2] }
  | _ => none }
def fnDiffBlocksRow : OpenClaim := { program := "ytkbppaddghfgpaa", sum := "5b43eb5aaf737c6a67e3f05b50a2e61f47a445ff4a1662acd38c324d525b82b6", func := "pub-dialplate/laws.FnDiffBlocks", spec := "fnDiffBlocks", unfollowed := true, recurses := true, apart := false }
def FnDiffBlocksSaid : Prop := fnDiffBlocksRow.holds Try.pinned (OpenSpec.ofChange fnDiffBlocksSpec)

/-- ITS FALSE NEIGHBOUR: 'it returns false'. Refute it at one input. -/
def fnDiffBlocksWrong : ChangeSpec := { name := "fnDiffBlocks", fn := fun _ => fun
  | [d1, d2] => { results := [.lit (.bool false)], args := [d1, d2] }
  | _ => none }
def FnDiffBlocksWrongFalsely : Prop := fnDiffBlocksRow.holds Try.pinned (OpenSpec.ofChange fnDiffBlocksWrong)

/-- 'laws.FnDiffEdits': WHATEVER THE INPUT: true; the input reads as it did. -/
def fnDiffEditsSpec : ChangeSpec := { name := "fnDiffEdits", fn := fun _ => fun
  | [d1, d2] => { results := [.lit (.bool true)], args := [d1, d2] }
  | _ => none }
def fnDiffEditsRow : OpenClaim := { program := "ytkbppaddghfgpaa", sum := "5b43eb5aaf737c6a67e3f05b50a2e61f47a445ff4a1662acd38c324d525b82b6", func := "pub-dialplate/laws.FnDiffEdits", spec := "fnDiffEdits", unfollowed := true, recurses := true, apart := false }
def FnDiffEditsSaid : Prop := fnDiffEditsRow.holds Try.pinned (OpenSpec.ofChange fnDiffEditsSpec)

/-- ITS FALSE NEIGHBOUR: 'it returns false'. Refute it at one input. -/
def fnDiffEditsWrong : ChangeSpec := { name := "fnDiffEdits", fn := fun _ => fun
  | [d1, d2] => { results := [.lit (.bool false)], args := [d1, d2] }
  | _ => none }
def FnDiffEditsWrongFalsely : Prop := fnDiffEditsRow.holds Try.pinned (OpenSpec.ofChange fnDiffEditsWrong)

/-- 'laws.FnDiffRatios': WHATEVER THE INPUT: true; the input reads as it did. -/
def fnDiffRatiosSpec : ChangeSpec := { name := "fnDiffRatios", fn := fun _ => fun
  | [d1, d2] => { results := [.lit (.bool true)], args := [d1, d2] }
  | _ => none }
def fnDiffRatiosRow : OpenClaim := { program := "ytkbppaddghfgpaa", sum := "5b43eb5aaf737c6a67e3f05b50a2e61f47a445ff4a1662acd38c324d525b82b6", func := "pub-dialplate/laws.FnDiffRatios", spec := "fnDiffRatios", unfollowed := true, recurses := true, apart := false }
def FnDiffRatiosSaid : Prop := fnDiffRatiosRow.holds Try.pinned (OpenSpec.ofChange fnDiffRatiosSpec)

/-- ITS FALSE NEIGHBOUR: 'it returns false'. Refute it at one input. -/
def fnDiffRatiosWrong : ChangeSpec := { name := "fnDiffRatios", fn := fun _ => fun
  | [d1, d2] => { results := [.lit (.bool false)], args := [d1, d2] }
  | _ => none }
def FnDiffRatiosWrongFalsely : Prop := fnDiffRatiosRow.holds Try.pinned (OpenSpec.ofChange fnDiffRatiosWrong)

/- THE SECOND FORM. 'bulk': how many values and letters a reading holds, each counted each time it is reached (what is shared counts as often as it is met; a slice's spare places count too). A statement '..UptoSaid' is the law's where the arguments, and the package variables that the reading takes, are together of bulk at most 1048576: NARROWER than '..Said'. Prove '..Said' where nothing that the law and all that it calls make is longer than what came in: it says more and counts as full. Else prove '..UptoSaid'. A law counts once. -/
mutual
def uptoBulk {H : Type} : DataW H → Nat
  | .lit (.string bytes) => bytes.length + 1
  | .lit _ => 1
  | .nil => 1
  | .ptr d => uptoBulk d + 1
  | .slice elems spare => uptoBulkAll elems + uptoBulkAll spare + 1
  | .agg parts => uptoBulkAll parts + 1
  | .iface _ d => uptoBulk d + 1
  | .map entries => uptoBulkEntries entries + 1
  | .held _ => 1
def uptoBulkAll {H : Type} : List (DataW H) → Nat
  | [] => 0
  | d :: r => uptoBulk d + uptoBulkAll r
def uptoBulkEntries {H : Type} : List (Lit × DataW H) → Nat
  | [] => 0
  | x :: r => uptoBulkEntry x + uptoBulkEntries r
def uptoBulkEntry {H : Type} : Lit × DataW H → Nat
  | (.string bytes, d) => bytes.length + uptoBulk d + 1
  | (_, d) => uptoBulk d + 1
 end
def uptoSmall : (H : Type) → List (DataW H) → Bool := fun _ ds => decide (uptoBulkAll ds ≤ 1048576)
def OpenSpec.upto (s : _root_.Go.ChangeSpec) : _root_.Go.OpenSpec := { _root_.Go.OpenSpec.ofChange s with cond := some uptoSmall }

/-- 'laws.FnAcceptChosen', WHERE WHAT IT READS IS OF BULK AT MOST 1048576: true; the input reads as it did. -/
def fnAcceptChosenUptoRow : OpenClaim := { program := "ytkbppaddghfgpaa", sum := "5b43eb5aaf737c6a67e3f05b50a2e61f47a445ff4a1662acd38c324d525b82b6", func := "pub-dialplate/laws.FnAcceptChosen", spec := "fnAcceptChosen", apart := false, narrowed := true }
def FnAcceptChosenUptoSaid : Prop := fnAcceptChosenUptoRow.holds Try.pinned (OpenSpec.upto fnAcceptChosenSpec)

/-- 'laws.FnPickSchemaOrder', WHERE WHAT IT READS IS OF BULK AT MOST 1048576: true; the input reads as it did. -/
def fnPickSchemaOrderUptoRow : OpenClaim := { program := "ytkbppaddghfgpaa", sum := "5b43eb5aaf737c6a67e3f05b50a2e61f47a445ff4a1662acd38c324d525b82b6", func := "pub-dialplate/laws.FnPickSchemaOrder", spec := "fnPickSchemaOrder", inPlace := ["math.Float64bits", "math.Float64frombits", "math.archLog", "math.archFloor", "math.archTrunc"], apart := false, narrowed := true }
def FnPickSchemaOrderUptoSaid : Prop := fnPickSchemaOrderUptoRow.holds Try.pinned (OpenSpec.upto fnPickSchemaOrderSpec)

/-- 'laws.FnDiffBlocks', WHERE WHAT IT READS IS OF BULK AT MOST 1048576: true; the input reads as it did. -/
def fnDiffBlocksUptoRow : OpenClaim := { program := "ytkbppaddghfgpaa", sum := "5b43eb5aaf737c6a67e3f05b50a2e61f47a445ff4a1662acd38c324d525b82b6", func := "pub-dialplate/laws.FnDiffBlocks", spec := "fnDiffBlocks", unfollowed := true, recurses := true, apart := false, narrowed := true }
def FnDiffBlocksUptoSaid : Prop := fnDiffBlocksUptoRow.holds Try.pinned (OpenSpec.upto fnDiffBlocksSpec)

/-- 'laws.FnDiffEdits', WHERE WHAT IT READS IS OF BULK AT MOST 1048576: true; the input reads as it did. -/
def fnDiffEditsUptoRow : OpenClaim := { program := "ytkbppaddghfgpaa", sum := "5b43eb5aaf737c6a67e3f05b50a2e61f47a445ff4a1662acd38c324d525b82b6", func := "pub-dialplate/laws.FnDiffEdits", spec := "fnDiffEdits", unfollowed := true, recurses := true, apart := false, narrowed := true }
def FnDiffEditsUptoSaid : Prop := fnDiffEditsUptoRow.holds Try.pinned (OpenSpec.upto fnDiffEditsSpec)

/-- 'laws.FnDiffRatios', WHERE WHAT IT READS IS OF BULK AT MOST 1048576: true; the input reads as it did. -/
def fnDiffRatiosUptoRow : OpenClaim := { program := "ytkbppaddghfgpaa", sum := "5b43eb5aaf737c6a67e3f05b50a2e61f47a445ff4a1662acd38c324d525b82b6", func := "pub-dialplate/laws.FnDiffRatios", spec := "fnDiffRatios", unfollowed := true, recurses := true, apart := false, narrowed := true }
def FnDiffRatiosUptoSaid : Prop := fnDiffRatiosUptoRow.holds Try.pinned (OpenSpec.upto fnDiffRatiosSpec)

end Rows
end Go.Proofs.Ytkbppaddghfgpaa
