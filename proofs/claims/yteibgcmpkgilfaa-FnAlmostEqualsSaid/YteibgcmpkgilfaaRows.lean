/-
  No cell of these rows narrows 'for every input' (looked for: loops, veiled, ifaces, maps, wideKeys, modest, calm, conditions, laid).
  DERIVED. THE GIVEN ROWS OF THIS SEAT. 5 by the template 'for every input the law returns true; each argument reads behind the call as it read before'; 0 by the template 'total and deterministic' (their statements: YteibgcmpkgilfaaTotals.lean).
  GIVEN WITH THE SEED: the statements are not yours to turn. If you find one false, say at which input.
  Laid BY PROGRAM, IN A SANDBOX (cutbox-rows.mjs): the forced cells as the released guide's own fill.sh prints them over the translation 2d43da2a91390c52… (all of the seat's roots in one cut). By AI agents, Wed Nov 11 2026. No macro, syntax, notation, axiom, sorry.
-/
import Derived.Test.YteibgcmpkgilfaaChecked
import GoSem.Claim
import GoSem.ClaimJoined
import GoSem.ClaimMapViews
import Derived.JoinedTies
import Derived.KernelRfl
namespace Go.Proofs.Yteibgcmpkgilfaa
/- THE CELL 'sum', in the pinned program and in every row, IS THE sha256 OF THE DUMP (.gsa) THAT YteibgcmpkgilfaaProg.lean LOADS. Nothing in Lean hashes anything: it is a label: what it is worth is what the hold of that sum in a sandbox is worth. -/
noncomputable def Try.pinned : Pinned := { name := "yteibgcmpkgilfaa", sum := "2d43da2a91390c521411144a3de2522edbb7facee57c5135dcc9ec62852b70c4", checked := Try.checked }
namespace Rows
def none {H : Type} : Left H := { results := [], args := [] }

/-- 'laws.FnReBucket': WHATEVER THE INPUT: true; the input reads as it did. -/
def fnReBucketSpec : ChangeSpec := { name := "fnReBucket", fn := fun _ => fun
  | [d1, d2] => { results := [.lit (.bool true)], args := [d1, d2] }
  | _ => none }
def fnReBucketRow : OpenClaim := { program := "yteibgcmpkgilfaa", sum := "2d43da2a91390c521411144a3de2522edbb7facee57c5135dcc9ec62852b70c4", func := "pub-dialplate/laws.FnReBucket", spec := "fnReBucket", inPlace := ["math.Float64frombits"], apart := false }
def FnReBucketSaid : Prop := fnReBucketRow.holds Try.pinned (OpenSpec.ofChange fnReBucketSpec)

/-- ITS FALSE NEIGHBOUR: 'it returns false'. Refute it at one input. -/
def fnReBucketWrong : ChangeSpec := { name := "fnReBucket", fn := fun _ => fun
  | [d1, d2] => { results := [.lit (.bool false)], args := [d1, d2] }
  | _ => none }
def FnReBucketWrongFalsely : Prop := fnReBucketRow.holds Try.pinned (OpenSpec.ofChange fnReBucketWrong)

/-- 'laws.FnName': WHATEVER THE INPUT: true; the input reads as it did. -/
def fnNameSpec : ChangeSpec := { name := "fnName", fn := fun _ => fun
  | [d1, d2, d3] => { results := [.lit (.bool true)], args := [d1, d2, d3] }
  | _ => none }
def fnNameRow : OpenClaim := { program := "yteibgcmpkgilfaa", sum := "2d43da2a91390c521411144a3de2522edbb7facee57c5135dcc9ec62852b70c4", func := "pub-dialplate/laws.FnName", spec := "fnName", inPlace := ["internal/abi.NoEscape", "internal/bytealg.MakeNoZero"], apart := false }
def FnNameSaid : Prop := fnNameRow.holds Try.pinned (OpenSpec.ofChange fnNameSpec)

/-- ITS FALSE NEIGHBOUR: 'it returns false'. Refute it at one input. -/
def fnNameWrong : ChangeSpec := { name := "fnName", fn := fun _ => fun
  | [d1, d2, d3] => { results := [.lit (.bool false)], args := [d1, d2, d3] }
  | _ => none }
def FnNameWrongFalsely : Prop := fnNameRow.holds Try.pinned (OpenSpec.ofChange fnNameWrong)

/-- 'laws.FnUnitBuckets': WHATEVER THE INPUT: true; the input reads as it did. -/
def fnUnitBucketsSpec : ChangeSpec := { name := "fnUnitBuckets", fn := fun _ => fun
  | [d1, d2] => { results := [.lit (.bool true)], args := [d1, d2] }
  | _ => none }
def fnUnitBucketsRow : OpenClaim := { program := "yteibgcmpkgilfaa", sum := "2d43da2a91390c521411144a3de2522edbb7facee57c5135dcc9ec62852b70c4", func := "pub-dialplate/laws.FnUnitBuckets", spec := "fnUnitBuckets", inPlace := ["math.Float64frombits"], apart := false }
def FnUnitBucketsSaid : Prop := fnUnitBucketsRow.holds Try.pinned (OpenSpec.ofChange fnUnitBucketsSpec)

/-- ITS FALSE NEIGHBOUR: 'it returns false'. Refute it at one input. -/
def fnUnitBucketsWrong : ChangeSpec := { name := "fnUnitBuckets", fn := fun _ => fun
  | [d1, d2] => { results := [.lit (.bool false)], args := [d1, d2] }
  | _ => none }
def FnUnitBucketsWrongFalsely : Prop := fnUnitBucketsRow.holds Try.pinned (OpenSpec.ofChange fnUnitBucketsWrong)

/-- 'laws.FnSanitized': WHATEVER THE INPUT: true; the input reads as it did. -/
def fnSanitizedSpec : ChangeSpec := { name := "fnSanitized", fn := fun _ => fun
  | [d] => { results := [.lit (.bool true)], args := [d] }
  | _ => none }
def fnSanitizedRow : OpenClaim := { program := "yteibgcmpkgilfaa", sum := "2d43da2a91390c521411144a3de2522edbb7facee57c5135dcc9ec62852b70c4", func := "pub-dialplate/laws.FnSanitized", spec := "fnSanitized", inPlace := ["internal/abi.NoEscape"], apart := false }
def FnSanitizedSaid : Prop := fnSanitizedRow.holds Try.pinned (OpenSpec.ofChange fnSanitizedSpec)

/-- ITS FALSE NEIGHBOUR: 'it returns false'. Refute it at one input. -/
def fnSanitizedWrong : ChangeSpec := { name := "fnSanitized", fn := fun _ => fun
  | [d] => { results := [.lit (.bool false)], args := [d] }
  | _ => none }
def FnSanitizedWrongFalsely : Prop := fnSanitizedRow.holds Try.pinned (OpenSpec.ofChange fnSanitizedWrong)

/-- 'laws.FnAlmostEquals': WHATEVER THE INPUT: true; the input reads as it did. -/
def fnAlmostEqualsSpec : ChangeSpec := { name := "fnAlmostEquals", fn := fun _ => fun
  | [d1, d2, d3] => { results := [.lit (.bool true)], args := [d1, d2, d3] }
  | _ => none }
def fnAlmostEqualsRow : OpenClaim := { program := "yteibgcmpkgilfaa", sum := "2d43da2a91390c521411144a3de2522edbb7facee57c5135dcc9ec62852b70c4", func := "pub-dialplate/laws.FnAlmostEquals", spec := "fnAlmostEquals", inPlace := ["math.Float64bits", "math.Float64frombits", "math.archMin"], apart := false }
def FnAlmostEqualsSaid : Prop := fnAlmostEqualsRow.holds Try.pinned (OpenSpec.ofChange fnAlmostEqualsSpec)

/-- ITS FALSE NEIGHBOUR: 'it returns false'. Refute it at one input. -/
def fnAlmostEqualsWrong : ChangeSpec := { name := "fnAlmostEquals", fn := fun _ => fun
  | [d1, d2, d3] => { results := [.lit (.bool false)], args := [d1, d2, d3] }
  | _ => none }
def FnAlmostEqualsWrongFalsely : Prop := fnAlmostEqualsRow.holds Try.pinned (OpenSpec.ofChange fnAlmostEqualsWrong)

/- THE SECOND FORM. 'bulk': how many values and letters a reading holds, each counted each time it is reached (what is shared counts as often as it is met; a slice's spare places count too). A statement '..UptoSaid' is the law's where the arguments, and the package variables that the reading takes, are together of bulk at most 1048576: NARROWER than '..Said'. Prove '..Said' where nothing that the law and all that it calls make is longer than what came in: it says more and counts as full. Else prove '..UptoSaid'. A law counts once. -/
mutual
def uptoBulk {H : Type} : DataW H → Nat
  | .lit (.string bytes) => bytes.length + 1
  | .lit _ => 1
  | .nil => 1
  | .ptr d => uptoBulk d + 1
  | .slice elems spare => uptoBulkAll elems + uptoBulkAll spare + 1
  | .agg parts => uptoBulkAll parts + 1
  | .iface _ d => uptoBulk d + 1
  | .map entries => uptoBulkEntries entries + 1
  | .held _ => 1
def uptoBulkAll {H : Type} : List (DataW H) → Nat
  | [] => 0
  | d :: r => uptoBulk d + uptoBulkAll r
def uptoBulkEntries {H : Type} : List (Lit × DataW H) → Nat
  | [] => 0
  | x :: r => uptoBulkEntry x + uptoBulkEntries r
def uptoBulkEntry {H : Type} : Lit × DataW H → Nat
  | (.string bytes, d) => bytes.length + uptoBulk d + 1
  | (_, d) => uptoBulk d + 1
 end
def uptoSmall : (H : Type) → List (DataW H) → Bool := fun _ ds => decide (uptoBulkAll ds ≤ 1048576)
def OpenSpec.upto (s : _root_.Go.ChangeSpec) : _root_.Go.OpenSpec := { _root_.Go.OpenSpec.ofChange s with cond := some uptoSmall }

/-- 'laws.FnReBucket', WHERE WHAT IT READS IS OF BULK AT MOST 1048576: true; the input reads as it did. -/
def fnReBucketUptoRow : OpenClaim := { program := "yteibgcmpkgilfaa", sum := "2d43da2a91390c521411144a3de2522edbb7facee57c5135dcc9ec62852b70c4", func := "pub-dialplate/laws.FnReBucket", spec := "fnReBucket", inPlace := ["math.Float64frombits"], apart := false, narrowed := true }
def FnReBucketUptoSaid : Prop := fnReBucketUptoRow.holds Try.pinned (OpenSpec.upto fnReBucketSpec)

/-- 'laws.FnName', WHERE WHAT IT READS IS OF BULK AT MOST 1048576: true; the input reads as it did. -/
def fnNameUptoRow : OpenClaim := { program := "yteibgcmpkgilfaa", sum := "2d43da2a91390c521411144a3de2522edbb7facee57c5135dcc9ec62852b70c4", func := "pub-dialplate/laws.FnName", spec := "fnName", inPlace := ["internal/abi.NoEscape", "internal/bytealg.MakeNoZero"], apart := false, narrowed := true }
def FnNameUptoSaid : Prop := fnNameUptoRow.holds Try.pinned (OpenSpec.upto fnNameSpec)

/-- 'laws.FnUnitBuckets', WHERE WHAT IT READS IS OF BULK AT MOST 1048576: true; the input reads as it did. -/
def fnUnitBucketsUptoRow : OpenClaim := { program := "yteibgcmpkgilfaa", sum := "2d43da2a91390c521411144a3de2522edbb7facee57c5135dcc9ec62852b70c4", func := "pub-dialplate/laws.FnUnitBuckets", spec := "fnUnitBuckets", inPlace := ["math.Float64frombits"], apart := false, narrowed := true }
def FnUnitBucketsUptoSaid : Prop := fnUnitBucketsUptoRow.holds Try.pinned (OpenSpec.upto fnUnitBucketsSpec)

/-- 'laws.FnSanitized', WHERE WHAT IT READS IS OF BULK AT MOST 1048576: true; the input reads as it did. -/
def fnSanitizedUptoRow : OpenClaim := { program := "yteibgcmpkgilfaa", sum := "2d43da2a91390c521411144a3de2522edbb7facee57c5135dcc9ec62852b70c4", func := "pub-dialplate/laws.FnSanitized", spec := "fnSanitized", inPlace := ["internal/abi.NoEscape"], apart := false, narrowed := true }
def FnSanitizedUptoSaid : Prop := fnSanitizedUptoRow.holds Try.pinned (OpenSpec.upto fnSanitizedSpec)

/-- 'laws.FnAlmostEquals', WHERE WHAT IT READS IS OF BULK AT MOST 1048576: true; the input reads as it did. -/
def fnAlmostEqualsUptoRow : OpenClaim := { program := "yteibgcmpkgilfaa", sum := "2d43da2a91390c521411144a3de2522edbb7facee57c5135dcc9ec62852b70c4", func := "pub-dialplate/laws.FnAlmostEquals", spec := "fnAlmostEquals", inPlace := ["math.Float64bits", "math.Float64frombits", "math.archMin"], apart := false, narrowed := true }
def FnAlmostEqualsUptoSaid : Prop := fnAlmostEqualsUptoRow.holds Try.pinned (OpenSpec.upto fnAlmostEqualsSpec)

end Rows
end Go.Proofs.Yteibgcmpkgilfaa
