/- Opening the arguments of FnAcceptChosen. -/
import Derived.Test.YtkbppaddghfgpaaAcc15
import Derived.Deep.Fields
set_option linter.unusedVariables false
set_option linter.unusedSimpArgs false
namespace Go.Proofs.Ytkbppaddghfgpaa
open Go.RowKit Go.ChangeShapes Go.WideShapes Go.Deep

section
variable {P : Program} {H : Type} {enc : TypeId × Value → H} {W : World}
theorem el_two {e : Nat} {f0 f1 : Field} (he : P.underlying e = some (.struct #[f0, f1])) (hone : oneCellFields P #[f0, f1] = true) (h0 : P.underlying f0.type = some .string) (h1 : P.underlying f1.type = some .string) :
    ∀ fuel cs y, DataW.trod enc P W 0 (fun _ => true) true fuel e cs = some y → cs.length = 2 → ∃ x : Ent, cs = [.string x.1, .string x.2] ∧ x.1.size ≤ maxLen ∧ x.2.size ≤ maxLen := by
  intro fuel cs y ht hl
  obtain ⟨ys, n', _, _, _, hyl, hf⟩ := DataW.trod_struct he ht
  obtain ⟨o0, k0⟩ := hone_of hone 0 f0 rfl
  obtain ⟨o1, k1⟩ := hone_of hone 1 f1 rfl
  match cs, hl with
  | [c0, c1], _ =>
    match ys, hyl with
    | [y0, y1], _ =>
      have t0 := hf 0 f0 rfl
      have t1 := hf 1 f1 rfl
      rw [o0, k0] at t0
      rw [o1, k1] at t1
      obtain ⟨x0, e0, s0⟩ := el_string h0 n' [c0] y0 t0 rfl
      obtain ⟨x1, e1, s1⟩ := el_string h1 n' [c1] y1 t1 rfl
      cases e0; cases e1
      exact ⟨(x0, x1), rfl, s0, s1⟩
theorem open_twoG {t e base : Nat} {f0 f1 : Field} {v : Value} {d : DataW H} {ps : List MemPlace} (ht : P.underlying t = some (.slice e)) (hn : P.cellsOf e = 2) (he : P.underlying e = some (.struct #[f0, f1])) (hone : oneCellFields P #[f0, f1] = true) (h0 : P.underlying f0.type = some .string) (h1 : P.underlying f1.type = some .string)
    (hok : Value.okWide P W .any base t v) (h : DataW.Trod enc P W 0 (fun _ => true) true t v d ps) : ∃ xs : List Ent, RdE W v xs ∧ ∀ x ∈ xs, x.1.size ≤ maxLen ∧ x.2.size ≤ maxLen := by
  obtain ⟨xs, hx⟩ := open_g (n := 2) (R := fun _ cs (x : Ent) => cs = [.string x.1, .string x.2] ∧ (x.1.size ≤ maxLen ∧ x.2.size ≤ maxLen)) ht hn (Nat.succ_pos 1) (el_two he hone h0 h1) hok h
  exact ⟨xs, RdP.ofG hx⟩
theorem open_strG {t e base : Nat} {v : Value} {d : DataW H} {ps : List MemPlace} (ht : P.underlying t = some (.slice e)) (hn : P.cellsOf e = 1) (h0 : P.underlying e = some .string)
    (hok : Value.okWide P W .any base t v) (h : DataW.Trod enc P W 0 (fun _ => true) true t v d ps) : ∃ xs : List ByteArray, RdC Value.string W v xs ∧ ∀ x ∈ xs, x.size ≤ maxLen := by
  obtain ⟨xs, hx⟩ := open_g (n := 1) (R := fun _ cs (x : ByteArray) => cs = [.string x] ∧ x.size ≤ maxLen) ht hn (Nat.succ_pos 0) (el_string h0) hok h
  exact ⟨xs, hx.one⟩
end
set_option maxRecDepth 100000 in
theorem open_ents {H : Type} {enc : TypeId × Value → H} {W : World} {base : Nat} {v : Value} {d : DataW H} {ps : List MemPlace}
    (hok : Value.okWide Try.prog W .any base 22 v) (h : DataW.Trod enc Try.prog W 0 (fun _ => true) true 22 v d ps) : ∃ xs : List Ent, RdE W v xs ∧ ∀ x ∈ xs, x.1.size ≤ maxLen ∧ x.2.size ≤ maxLen :=
  open_twoG Try.underlying22 (by kernel_rfl) Try.underlying58 (by kernel_rfl) Try.underlying9 Try.underlying9 hok h
set_option maxRecDepth 100000 in
theorem open_strs {H : Type} {enc : TypeId × Value → H} {W : World} {base : Nat} {v : Value} {d : DataW H} {ps : List MemPlace}
    (hok : Value.okWide Try.prog W .any base 23 v) (h : DataW.Trod enc Try.prog W 0 (fun _ => true) true 23 v d ps) : ∃ xs : List ByteArray, RdC Value.string W v xs ∧ ∀ x ∈ xs, x.size ≤ maxLen :=
  open_strG Try.underlying23 (by kernel_rfl) Try.underlying9 hok h

theorem fnAcceptChosen.walk0 (w : World) (v : Value) (xs : List Ent) (hv : RdE w v xs ∧ ∀ x ∈ xs, x.1.size ≤ maxLen ∧ x.2.size ≤ maxLen) (c : Int) (hc : (Lit.int .u8 c).wf = true) (bl : Bool)
    (ov : Value) (os : List ByteArray) (hov : RdC Value.string w ov os ∧ ∀ o ∈ os, o.size ≤ maxLen) :
    Calls Try.prog 3 #[v, .int .u8 c, .bool bl, ov] w fun e w' => e = .returned (.bool true) ∧ Below w.heap.size w w' := by
  have h := hc
  have e1 : IntKind.u8.min = 0 := by decide
  have e2 : IntKind.u8.max = 255 := by decide
  simp [Lit.wf, e1, e2] at h
  exact chosenLaw v ov c bl xs os w hv.1 hv.2 (by omega) (by omega) hov.1 hov.2
end Go.Proofs.Ytkbppaddghfgpaa
