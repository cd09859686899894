/- Slices that came in, with the bulk of what they hold. -/
import Derived.Test.YtojlpfakdodnfaaGreatDoorSl
import Derived.Test.YtojlpfakdodnfaaGreatDoorRows
set_option linter.unusedVariables false
namespace Go.Proofs.YtojlpfakdodnfaaGreatDoor
open Go.RowKit Go.ChangeShapes Go.WideShapes Go.ChangeAt

def sumw {α : Type} (wt : α → Nat) : List α → Nat
  | [] => 0
  | x :: r => wt x + sumw wt r
theorem bulk_one {H : Type} (d : DataW H) : 1 ≤ Rows.uptoBulk d := by
  cases d with
  | lit l => cases l <;> simp [Rows.uptoBulk]
  | nil => simp [Rows.uptoBulk]
  | ptr d => simp [Rows.uptoBulk]
  | slice elems spare => simp [Rows.uptoBulk]
  | agg parts => simp [Rows.uptoBulk]
  | iface t d => simp [Rows.uptoBulk]
  | map entries => simp [Rows.uptoBulk]
  | held h => simp [Rows.uptoBulk]
theorem sum_le {α H : Type} {wt : α → Nat} : ∀ (xs : List α) (ds : List (DataW H)), xs.length = ds.length → (∀ (i : Nat) (x : α) (y : DataW H), xs[i]? = some x → ds[i]? = some y → wt x ≤ Rows.uptoBulk y) → sumw wt xs ≤ Rows.uptoBulkAll ds
  | [], ds, _, _ => Nat.zero_le _
  | x :: xs, [], h, _ => by simp at h
  | x :: xs, d :: ds, h, hp => by
    have h0 := hp 0 x d rfl rfl
    have ih := sum_le xs ds (by simpa using h) (fun i x y hx hy => hp (i + 1) x y (by simpa using hx) (by simpa using hy))
    simp only [sumw, Rows.uptoBulkAll]
    omega
theorem bulk_string {H : Type} (bytes : List UInt8) : Rows.uptoBulk (DataW.lit (H := H) (.string bytes)) = bytes.length + 1 := by simp [Rows.uptoBulk]

theorem open_cellsB {P : Program} {H : Type} {enc : TypeId × Value → H} {W : World} {t e n fuel : Nat} {cs : List Value} {x : DataW H × List MemPlace}
    (ht : P.underlying t = some (.slice e)) (hn : P.cellsOf e = n) (hn0 : 0 < n)
    {α : Type} {R : World → List Value → α → Prop} {wt : α → Nat} (hel : ∀ fuel cs y, DataW.trod enc P W 0 (fun _ => true) true fuel e cs = some y → cs.length = n → ∃ x, R W cs x ∧ wt x ≤ Rows.uptoBulk y.1)
    (h : DataW.trod enc P W 0 (fun _ => true) true fuel t cs = some x) : ∃ (v : Value) (xs : List α), cs = [v] ∧ RdG n R W v xs ∧ sumw wt xs ≤ Rows.uptoBulk x.1 := by
  rcases DataW.trod_slice ht h with ⟨rfl, _⟩ | ⟨a, len, cap, elems, rest, m, _, rfl, rfl, _, hl, hm, hlen, hel2, _, _⟩
  · exact ⟨_, [], rfl, ⟨none, 0, 0, 0, rfl, Nat.le_refl _, Nat.zero_le _, .inl rfl, by simp⟩, Nat.zero_le _⟩
  · rw [hn] at hel2
    have each : ∀ i (hi : i < len), ∃ cs, W.cells? 0 (a.add (i * n)) n = some cs ∧ DataW.trod enc P W 0 (fun _ => true) true m e cs = some (elems[i]'(by omega)) := by
      intro i hi
      have h1 := hel2 i hi
      rw [List.getElem?_eq_getElem (by omega)] at h1
      obtain ⟨cs, h2, h3⟩ := Option.bind_eq_some_iff.1 h1
      exact ⟨cs, h2, h3⟩
    by_cases h0 : len = 0
    · subst h0
      exact ⟨_, [], rfl, ⟨some a, cap, 0, 0, rfl, Nat.zero_le _, hm, .inl rfl, by simp⟩, Nat.zero_le _⟩
    · obtain ⟨b, off, spot⟩ := a
      have hspot : spot = none := by
        obtain ⟨cs, h1, _⟩ := each 0 (by omega)
        obtain ⟨_, hl1, hc⟩ := World.cells?_some h1
        have h2 := hc 0 hn0
        have h3 : ((⟨b, off, spot⟩ : Addr).add (0 * n)).add 0 = ⟨b, off, spot⟩ := by simp [Addr.add]
        rw [h3] at h2
        exact World.cell?_spot (h2.trans (List.getElem?_eq_getElem (by omega)))
      subst hspot
      obtain ⟨xs, hxl, hx⟩ := choose_list (α := α) (Q := fun i x => (∃ cs, cs.length = n ∧ R W cs x ∧ ∀ j u, cs[j]? = some u → W.cell? ⟨b, off + i * n + j, none⟩ = some u) ∧ ∀ y, elems[i]? = some y → wt x ≤ Rows.uptoBulk y.1) len (by
        intro i hi
        obtain ⟨cs, h1, h2⟩ := each i hi
        obtain ⟨_, hl1, hc⟩ := World.cells?_some h1
        obtain ⟨z, hz, hw⟩ := hel _ _ _ h2 hl1
        refine ⟨z, ⟨cs, hl1, hz, fun j u hu => ?_⟩, fun y hy => ?_⟩
        · have hj : j < n := by rw [← hl1]; exact (List.getElem?_eq_some_iff.1 hu).1
          have h4 := hc j hj
          rw [add_plain, add_plain] at h4
          rw [h4, hu]
        · rw [List.getElem?_eq_getElem (by omega)] at hy
          rw [← Option.some.inj hy]
          exact hw)
      refine ⟨_, xs, rfl, ⟨_, cap, b, off, by rw [hxl], by omega, hm, .inr rfl, fun i x hi => (hx i x hi).1⟩, ?_⟩
      have hs := sum_le (wt := wt) xs (elems.map (·.1)) (by rw [List.length_map]; omega) (fun i x y hi hy => by
        rw [List.getElem?_map] at hy
        obtain ⟨z, hz, rfl⟩ := Option.map_eq_some_iff.1 hy
        exact (hx i x hi).2 z hz)
      simp only [Rows.uptoBulk]
      omega

theorem open_gB {P : Program} {H : Type} {enc : TypeId × Value → H} {W : World} {base t e n : Nat} {v : Value} {d : DataW H} {ps : List MemPlace}
    (ht : P.underlying t = some (.slice e)) (hn : P.cellsOf e = n) (hn0 : 0 < n)
    {α : Type} {R : World → List Value → α → Prop} {wt : α → Nat} (hel : ∀ fuel cs y, DataW.trod enc P W 0 (fun _ => true) true fuel e cs = some y → cs.length = n → ∃ x, R W cs x ∧ wt x ≤ Rows.uptoBulk y.1)
    (hok : Value.okWide P W .any base t v) (h : DataW.Trod enc P W 0 (fun _ => true) true t v d ps) : ∃ xs : List α, RdG n R W v xs ∧ sumw wt xs ≤ Rows.uptoBulk d := by
  obtain ⟨a0, len, cap, rfl⟩ := okWide_slice ht hok
  obtain ⟨fuel, hf⟩ := h
  obtain ⟨v, xs, h1, h2, h3⟩ := open_cellsB ht hn hn0 hel hf
  simp [Value.cells] at h1
  subst h1
  exact ⟨xs, h2, h3⟩

theorem el_stringB {P : Program} {H : Type} {enc : TypeId × Value → H} {W : World} {e : Nat} (he : P.underlying e = some .string) : ∀ fuel cs y, DataW.trod enc P W 0 (fun _ => true) true fuel e cs = some y → cs.length = 1 → ∃ x : ByteArray, (cs = [.string x] ∧ x.size ≤ maxLen) ∧ x.size + 1 ≤ Rows.uptoBulk y.1 := by
  intro fuel cs y h hl
  cases fuel with
  | zero => simp [DataW.trod] at h
  | succ f =>
    match cs, hl with
    | [c], _ =>
      unfold DataW.trod at h
      simp only [he] at h
      cases c <;> simp at h
      obtain ⟨hx, rfl⟩ := h
      refine ⟨_, ⟨rfl, hx⟩, ?_⟩
      rw [bulk_string, Array.length_toList]
      exact Nat.le_refl _
theorem open_strB {P : Program} {H : Type} {enc : TypeId × Value → H} {W : World} {t e base : Nat} {v : Value} {d : DataW H} {ps : List MemPlace} (ht : P.underlying t = some (.slice e)) (hn : P.cellsOf e = 1) (h0 : P.underlying e = some .string)
    (hok : Value.okWide P W .any base t v) (h : DataW.Trod enc P W 0 (fun _ => true) true t v d ps) : ∃ xs : List ByteArray, (RdC Value.string W v xs ∧ ∀ x ∈ xs, x.size ≤ maxLen) ∧ sumw (fun x => x.size + 1) xs ≤ Rows.uptoBulk d := by
  obtain ⟨xs, hx, hs⟩ := open_gB (n := 1) (R := fun _ cs (x : ByteArray) => cs = [.string x] ∧ x.size ≤ maxLen) (wt := fun x => x.size + 1) ht hn (Nat.succ_pos 0) (el_stringB h0) hok h
  exact ⟨xs, hx.one, hs⟩
end Go.Proofs.YtojlpfakdodnfaaGreatDoor
