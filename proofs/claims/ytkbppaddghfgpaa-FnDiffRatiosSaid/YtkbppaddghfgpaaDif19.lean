/- Opening the arguments of the laws on lists of texts. -/
import Derived.Test.YtkbppaddghfgpaaDif18
import Derived.Deep.Fields
set_option linter.unusedVariables false
set_option linter.unusedSimpArgs false
namespace Go.Proofs.Ytkbppaddghfgpaa
open Go.RowKit Go.ChangeShapes Go.WideShapes Go.Deep

section
variable {P : Program} {H : Type} {enc : TypeId × Value → H} {W : World}
theorem open_strD {t e base : Nat} {v : Value} {d : DataW H} {ps : List MemPlace} (ht : P.underlying t = some (.slice e)) (hn : P.cellsOf e = 1) (h0 : P.underlying e = some .string)
    (hok : Value.okWide P W .any base t v) (h : DataW.Trod enc P W 0 (fun _ => true) true t v d ps) : ∃ xs : List ByteArray, RdC Value.string W v xs ∧ ∀ x ∈ xs, x.size ≤ maxLen := by
  obtain ⟨xs, hx⟩ := open_g (n := 1) (R := fun _ cs (x : ByteArray) => cs = [.string x] ∧ x.size ≤ maxLen) ht hn (Nat.succ_pos 0) (el_string h0) hok h
  exact ⟨xs, hx.one⟩
end
set_option maxRecDepth 100000 in
theorem open_texts {H : Type} {enc : TypeId × Value → H} {W : World} {base : Nat} {v : Value} {d : DataW H} {ps : List MemPlace}
    (hok : Value.okWide Try.prog W .any base 23 v) (h : DataW.Trod enc Try.prog W 0 (fun _ => true) true 23 v d ps) : ∃ xs : List ByteArray, RdC Value.string W v xs ∧ ∀ x ∈ xs, x.size ≤ maxLen :=
  open_strD Try.underlying23 (by kernel_rfl) Try.underlying9 hok h
theorem fnDiffBlocks.walk0 (w : World) (v1 : Value) (a : List ByteArray) (h1 : RdC Value.string w v1 a ∧ ∀ x ∈ a, x.size ≤ maxLen) (v2 : Value) (b : List ByteArray) (h2 : RdC Value.string w v2 b ∧ ∀ x ∈ b, x.size ≤ maxLen) :
    Calls Try.prog 5 #[v1, v2] w fun e w' => e = .returned (.bool true) ∧ Below w.heap.size w w' := blocksLaw v1 v2 a b w h1.1 h2.1 h1.2 h2.2
end Go.Proofs.Ytkbppaddghfgpaa
