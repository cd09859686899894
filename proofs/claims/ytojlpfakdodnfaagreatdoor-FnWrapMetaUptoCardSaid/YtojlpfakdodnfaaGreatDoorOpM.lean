/- Opening an argument of type spec.Meta, with its bulk. -/
import Derived.Test.YtojlpfakdodnfaaGreatDoorSlB
import Derived.Test.YtojlpfakdodnfaaGreatDoorMet2
import Derived.Deep.Fields
set_option linter.unusedVariables false
set_option linter.unusedSimpArgs false
namespace Go.Proofs.YtojlpfakdodnfaaGreatDoor
open Go.RowKit Go.ChangeShapes Go.WideShapes Go.ChangeAt Go.Deep

section
variable {P : Program} {H : Type} {enc : TypeId × Value → H} {W : World}
theorem el_twoB {e : Nat} {f0 f1 : Field} (he : P.underlying e = some (.struct #[f0, f1])) (hone : oneCellFields P #[f0, f1] = true) (h0 : P.underlying f0.type = some .string) (h1 : P.underlying f1.type = some .string) :
    ∀ fuel cs y, DataW.trod enc P W 0 (fun _ => true) true fuel e cs = some y → cs.length = 2 → ∃ x : Ent, (cs = [.string x.1, .string x.2] ∧ x.1.size ≤ maxLen ∧ x.2.size ≤ maxLen) ∧ x.1.size + x.2.size + 1 ≤ Rows.uptoBulk y.1 := by
  intro fuel cs y ht hl
  obtain ⟨ys, n', _, rfl, _, hyl, hf⟩ := DataW.trod_struct he ht
  obtain ⟨o0, k0⟩ := hone_of hone 0 f0 rfl
  obtain ⟨o1, k1⟩ := hone_of hone 1 f1 rfl
  match cs, hl with
  | [c0, c1], _ =>
    match ys, hyl with
    | [y0, y1], _ =>
      have t0 := hf 0 f0 rfl
      have t1 := hf 1 f1 rfl
      rw [o0, k0] at t0
      rw [o1, k1] at t1
      obtain ⟨x0, ⟨e0, s0⟩, w0⟩ := el_stringB h0 n' [c0] y0 t0 rfl
      obtain ⟨x1, ⟨e1, s1⟩, w1⟩ := el_stringB h1 n' [c1] y1 t1 rfl
      cases e0; cases e1
      refine ⟨(x0, x1), ⟨rfl, s0, s1⟩, ?_⟩
      simp only [List.map_cons, List.map_nil, Rows.uptoBulk, Rows.uptoBulkAll]
      omega
theorem open_strC {t e fuel : Nat} {c : Value} {y : DataW H × List MemPlace} (ht : P.underlying t = some (.slice e)) (hn : P.cellsOf e = 1) (h0 : P.underlying e = some .string)
    (h : DataW.trod enc P W 0 (fun _ => true) true fuel t [c] = some y) : ∃ xs : List ByteArray, (RdC Value.string W c xs ∧ ∀ x ∈ xs, x.size ≤ maxLen) ∧ sumw (fun x => x.size + 1) xs ≤ Rows.uptoBulk y.1 := by
  obtain ⟨v, xs, h1, h2, h3⟩ := open_cellsB (n := 1) (R := fun _ cs (x : ByteArray) => cs = [.string x] ∧ x.size ≤ maxLen) (wt := fun x => x.size + 1) ht hn (Nat.succ_pos 0) (el_stringB h0) h
  injection h1 with h1
  subst h1
  exact ⟨xs, h2.one, h3⟩
theorem open_entC {t e fuel : Nat} {f0 f1 : Field} {c : Value} {y : DataW H × List MemPlace} (ht : P.underlying t = some (.slice e)) (hn : P.cellsOf e = 2) (he : P.underlying e = some (.struct #[f0, f1])) (hone : oneCellFields P #[f0, f1] = true) (h0 : P.underlying f0.type = some .string) (h1 : P.underlying f1.type = some .string)
    (h : DataW.trod enc P W 0 (fun _ => true) true fuel t [c] = some y) : ∃ xs : List Ent, RdE W c xs ∧ sumw (fun x : Ent => x.1.size + x.2.size + 1) xs ≤ Rows.uptoBulk y.1 := by
  obtain ⟨v, xs, h1, h2, h3⟩ := open_cellsB (n := 2) (R := fun _ cs (x : Ent) => cs = [.string x.1, .string x.2] ∧ (x.1.size ≤ maxLen ∧ x.2.size ≤ maxLen)) (wt := fun x : Ent => x.1.size + x.2.size + 1) ht hn (Nat.succ_pos 1) (el_twoB he hone h0 h1) h
  injection h1 with h1
  subst h1
  exact ⟨xs, (RdE.ofG h2).1, h3⟩
theorem array5 {α : Type} {cs : Array α} (h : cs.size = 5) : ∃ c0 c1 c2 c3 c4, cs = #[c0, c1, c2, c3, c4] := by
  obtain ⟨l⟩ := cs
  match l, h with
  | [c0, c1, c2, c3, c4], _ => exact ⟨c0, c1, c2, c3, c4, rfl⟩
theorem sumw_mem {α : Type} {wt : α → Nat} : ∀ {xs : List α} {x : α}, x ∈ xs → wt x ≤ sumw wt xs
  | y :: r, x, h => by
    rcases List.mem_cons.1 h with rfl | h
    · exact Nat.le_add_right _ _
    · exact Nat.le_trans (sumw_mem h) (Nat.le_add_left _ _)
theorem sumw_len {α : Type} {wt : α → Nat} (h1 : ∀ x, 1 ≤ wt x) : ∀ xs : List α, xs.length ≤ sumw wt xs
  | [] => Nat.le_refl _
  | x :: r => by
    have := sumw_len h1 r
    have := h1 x
    show r.length + 1 ≤ wt x + sumw wt r
    omega
theorem open_metaG {t base e3 e4 : Nat} {f0 f1 f2 f3 f4 g0 g1 : Field} {v : Value} {d : DataW H} {ps : List MemPlace} (hs : P.underlying t = some (.struct #[f0, f1, f2, f3, f4])) (hone : oneCellFields P #[f0, f1, f2, f3, f4] = true) (hC : P.cellsOf t = 5)
    (k0 : P.underlying f0.type = some .string) (k1 : P.underlying f1.type = some .string) (k2 : P.underlying f2.type = some .string) (k3 : P.underlying f3.type = some (.slice e3)) (k4 : P.underlying f4.type = some (.slice e4))
    (n3 : P.cellsOf e3 = 1) (s3 : P.underlying e3 = some .string) (n4 : P.cellsOf e4 = 2) (s4 : P.underlying e4 = some (.struct #[g0, g1])) (hone4 : oneCellFields P #[g0, g1] = true) (l0 : P.underlying g0.type = some .string) (l1 : P.underlying g1.type = some .string)
    (hok : Value.okWide P W .any base t v) (h : DataW.Trod enc P W 0 (fun _ => true) true t v d ps) (hb : Rows.uptoBulk d ≤ 1048576) :
    ∃ (D : Dsc) (v1 v2 : Value), v = MetaV D.name D.help D.unit v1 v2 ∧ RdC Value.string W v1 D.vars ∧ RdE W v2 D.cons ∧ Small D := by
  obtain ⟨cs, rfl, hsz⟩ := okWide_struct hs hok
  obtain ⟨c0, c1, c2, c3, c4, rfl⟩ := array5 (hsz.trans hC)
  obtain ⟨fuel, hf⟩ := h
  obtain ⟨ys, n', _, hx, _, hyl, hf⟩ := DataW.trod_struct hs hf
  obtain ⟨o0, q0⟩ := hone_of hone 0 f0 rfl
  obtain ⟨o1, q1⟩ := hone_of hone 1 f1 rfl
  obtain ⟨o2, q2⟩ := hone_of hone 2 f2 rfl
  obtain ⟨o3, q3⟩ := hone_of hone 3 f3 rfl
  obtain ⟨o4, q4⟩ := hone_of hone 4 f4 rfl
  match ys, hyl with
  | [y0, y1, y2, y3, y4], _ =>
    have t0 := hf 0 f0 rfl
    have t1 := hf 1 f1 rfl
    have t2 := hf 2 f2 rfl
    have t3 := hf 3 f3 rfl
    have t4 := hf 4 f4 rfl
    rw [o0, q0] at t0
    rw [o1, q1] at t1
    rw [o2, q2] at t2
    rw [o3, q3] at t3
    rw [o4, q4] at t4
    obtain ⟨x0, ⟨e0, m0⟩, w0⟩ := el_stringB k0 n' [c0] y0 t0 rfl
    obtain ⟨x1, ⟨e1, m1⟩, w1⟩ := el_stringB k1 n' [c1] y1 t1 rfl
    obtain ⟨x2, ⟨e2, m2⟩, w2⟩ := el_stringB k2 n' [c2] y2 t2 rfl
    obtain ⟨xs, ⟨hv, hvs⟩, w3⟩ := open_strC k3 n3 s3 (fuel := n') (c := c3) (y := y3) t3
    obtain ⟨es, he, w4⟩ := open_entC k4 n4 s4 hone4 l0 l1 (fuel := n') (c := c4) (y := y4) t4
    cases e0; cases e1; cases e2
    have hd : d = .agg [y0.1, y1.1, y2.1, y3.1, y4.1] := congrArg Prod.fst hx
    subst hd
    simp only [Rows.uptoBulk, Rows.uptoBulkAll] at hb
    have z3 := sumw_len (wt := fun x : ByteArray => x.size + 1) (fun x => Nat.le_add_left _ _) xs
    have z4 := sumw_len (wt := fun x : Ent => x.1.size + x.2.size + 1) (fun x => Nat.le_add_left _ _) es
    refine ⟨⟨x0, x1, x2, xs, es⟩, c3, c4, rfl, hv, he, ?_, ?_, ?_, fun x hx => ?_, fun x hx => ?_, ?_, ?_, ?_, ?_, ?_⟩
    · show x0.size ≤ _; omega
    · show x1.size ≤ _; omega
    · show x2.size ≤ _; omega
    · have := sumw_mem (wt := fun x : ByteArray => x.size + 1) hx
      simp only at this; omega
    · have := sumw_mem (wt := fun x : Ent => x.1.size + x.2.size + 1) hx
      simp only at this
      exact ⟨by omega, by omega⟩
    · show xs.length ≤ _; omega
    · show es.length ≤ _; omega
    · show xs.length + es.length ≤ _; omega
    · show x0.size ≤ _; omega
    · show es.length ≤ _; omega
end
set_option maxRecDepth 100000 in
theorem open_meta {H : Type} {enc : TypeId × Value → H} {W : World} {base : Nat} {v : Value} {d : DataW H} {ps : List MemPlace}
    (hok : Value.okWide Tryz.prog W .any base 25 v) (h : DataW.Trod enc Tryz.prog W 0 (fun _ => true) true 25 v d ps) (hb : Rows.uptoBulk d ≤ 1048576) :
    ∃ (D : Dsc) (v1 v2 : Value), v = MetaV D.name D.help D.unit v1 v2 ∧ RdC Value.string W v1 D.vars ∧ RdE W v2 D.cons ∧ Small D :=
  open_metaG Tryz.underlying25 (by kernel_rfl) (by kernel_rfl) Tryz.underlying9 Tryz.underlying9 Tryz.underlying9 Tryz.underlying22 Tryz.underlying23 (by kernel_rfl) Tryz.underlying9 (by kernel_rfl) Tryz.underlying53 (by kernel_rfl) Tryz.underlying9 Tryz.underlying9 hok h hb
end Go.Proofs.YtojlpfakdodnfaaGreatDoor
