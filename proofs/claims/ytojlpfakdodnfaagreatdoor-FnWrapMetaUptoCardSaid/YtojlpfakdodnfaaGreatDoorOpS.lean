/- Openers beside Meta: lists of texts, lists of pairs, a text. -/
import Derived.Test.YtojlpfakdodnfaaGreatDoorOpM
set_option linter.unusedVariables false
set_option linter.unusedSimpArgs false
namespace Go.Proofs.YtojlpfakdodnfaaGreatDoor
open Go.RowKit Go.ChangeShapes Go.WideShapes Go.ChangeAt Go.Deep

theorem strs_small {xs : List ByteArray} {n : Nat} (h : sumw (fun x : ByteArray => x.size + 1) xs ≤ n) (hn : n ≤ 1048576) : xs.length ≤ 4194304 ∧ ∀ x ∈ xs, x.size ≤ 4194304 := by
  refine ⟨?_, fun x hx => ?_⟩
  · have := sumw_len (wt := fun x : ByteArray => x.size + 1) (fun x => Nat.le_add_left _ _) xs
    omega
  · have := sumw_mem (wt := fun x : ByteArray => x.size + 1) hx
    try simp only at this
    omega
theorem ents_small {xs : List Ent} {n : Nat} (h : sumw (fun x : Ent => x.1.size + x.2.size + 1) xs ≤ n) (hn : n ≤ 1048576) : xs.length ≤ 1048576 ∧ ∀ x ∈ xs, Tiny x := by
  refine ⟨?_, fun x hx => ?_⟩
  · have := sumw_len (wt := fun x : Ent => x.1.size + x.2.size + 1) (fun x => Nat.le_add_left _ _) xs
    omega
  · have := sumw_mem (wt := fun x : Ent => x.1.size + x.2.size + 1) hx
    try simp only at this
    exact ⟨by omega, by omega⟩
theorem str_small {H : Type} {s : ByteArray} (h : Rows.uptoBulk (DataW.lit (H := H) (.string s.data.toList)) ≤ 1048576) : s.size ≤ 1048576 := by
  rw [bulk_string, Array.length_toList] at h
  have : s.data.size = s.size := rfl
  omega
section
variable {P : Program} {H : Type} {enc : TypeId × Value → H} {W : World}
theorem open_entB {t e base : Nat} {f0 f1 : Field} {v : Value} {d : DataW H} {ps : List MemPlace} (ht : P.underlying t = some (.slice e)) (hn : P.cellsOf e = 2) (he : P.underlying e = some (.struct #[f0, f1])) (hone : oneCellFields P #[f0, f1] = true) (h0 : P.underlying f0.type = some .string) (h1 : P.underlying f1.type = some .string)
    (hok : Value.okWide P W .any base t v) (h : DataW.Trod enc P W 0 (fun _ => true) true t v d ps) : ∃ xs : List Ent, RdE W v xs ∧ sumw (fun x : Ent => x.1.size + x.2.size + 1) xs ≤ Rows.uptoBulk d := by
  obtain ⟨xs, h2, h3⟩ := open_gB (n := 2) (R := fun _ cs (x : Ent) => cs = [.string x.1, .string x.2] ∧ (x.1.size ≤ maxLen ∧ x.2.size ≤ maxLen)) (wt := fun x : Ent => x.1.size + x.2.size + 1) ht hn (Nat.succ_pos 1) (el_twoB he hone h0 h1) hok h
  exact ⟨xs, (RdE.ofG h2).1, h3⟩
end
set_option maxRecDepth 100000 in
theorem open_pairsB {H : Type} {enc : TypeId × Value → H} {W : World} {base : Nat} {v : Value} {d : DataW H} {ps : List MemPlace}
    (hok : Value.okWide Tryz.prog W .any base 23 v) (h : DataW.Trod enc Tryz.prog W 0 (fun _ => true) true 23 v d ps) :
    ∃ xs : List Ent, RdE W v xs ∧ sumw (fun x : Ent => x.1.size + x.2.size + 1) xs ≤ Rows.uptoBulk d :=
  open_entB Tryz.underlying23 (by kernel_rfl) Tryz.underlying53 (by kernel_rfl) Tryz.underlying9 Tryz.underlying9 hok h
end Go.Proofs.YtojlpfakdodnfaaGreatDoor
