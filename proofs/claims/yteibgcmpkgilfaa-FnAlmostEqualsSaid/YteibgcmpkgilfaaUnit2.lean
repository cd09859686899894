/- The two loops of the law FnUnitBuckets, as parts of its walk: plain facts. -/
import Derived.Test.YteibgcmpkgilfaaUnit
set_option linter.unusedVariables false
set_option linter.unusedSimpArgs false
namespace Go.Proofs.Yteibgcmpkgilfaa
open Go.RowKit Go.WideShapes

def divB (x : Nat) : Nat := (floatBits .quo .f64 x 4634204016564240384).getD 0
theorem whole_div (l : List Int) : ∀ x ∈ whole l, ∃ r, floatBits .quo .f64 x 4634204016564240384 = some r ∧ divB x = r ∧ FP r := by
  intro x hx
  obtain ⟨n, hn, rfl⟩ := List.mem_map.1 hx
  obtain ⟨_, _, _, h⟩ := whF_bd (l.take 1000)
  have h2 := h n hn
  have h3 : (l.take 1000).length ≤ 1000 := List.length_take_le _ _
  obtain ⟨r, hr, hf⟩ := div64 h2.1 (by omega)
  exact ⟨r, hr, by unfold divB; rw [hr]; rfl, hf⟩
def whole64 (l : List Int) : List Nat := (whole l).map divB
theorem whole64_fp (l : List Int) : ∀ x ∈ whole64 l, FP x := by
  intro x hx
  obtain ⟨y, hy, rfl⟩ := List.mem_map.1 hx
  obtain ⟨r, _, h, hf⟩ := whole_div l y hy
  rw [h]; exact hf
theorem map_upto {W : List Nat} {k : Nat} (hk : k < W.length) : ((W.take k).map divB ++ W.drop k).set k (divB W[k]) = (W.take (k + 1)).map divB ++ W.drop (k + 1) := by
  have hl : ((W.take k).map divB).length = k := by simp; omega
  rw [List.set_append_right _ _ (by omega), hl, Nat.sub_self, List.drop_eq_getElem_cons hk, List.set_cons_zero, List.take_succ_eq_append_getElem hk]
  simp [-List.take_append_getElem, -List.map_take]
theorem upto_get {W : List Nat} {k : Nat} (hk : k < W.length) : ((W.take k).map divB ++ W.drop k)[k]? = some W[k] := by
  have hl : ((W.take k).map divB).length = k := by simp; omega
  rw [List.getElem?_append_right (by omega), hl, Nat.sub_self, List.drop_eq_getElem_cons hk]; rfl
theorem cutOne_fp (l : List Nat) (h : ∀ x ∈ l, FP x) : ∀ x ∈ cutOne l, NN x := by
  induction l with
  | nil => intro x hx; cases hx
  | cons y r ih =>
    intro x hx
    unfold cutOne at hx
    split at hx
    · rcases List.mem_cons.1 hx with rfl | hx
      · exact (h x (by simp)).nn
      · exact ih (fun z hz => h z (by simp [hz])) x hx
    · simp at hx; subst hx; exact read_lo (by omega)
theorem sameL_nn (xs : List Nat) (h : ∀ x ∈ xs, NN x) : sameL xs xs = true := by
  induction xs with
  | nil => rfl
  | cons x r ih =>
    have h1 : sameB x x = true := by unfold sameB; rw [order_self (h x (by simp))]; rfl
    simp only [sameL, h1, ih (fun y hy => h y (by simp [hy])), Bool.and_self]
theorem cut_step_le {Q : List Nat} {k : Nat} (hk : k < Q.length) (h : leB Q[k] 4607182418800017408 = true) : Q.take k ++ cutOne (Q.drop k) = Q.take (k + 1) ++ cutOne (Q.drop (k + 1)) := by
  rw [List.drop_eq_getElem_cons hk, List.take_succ_eq_append_getElem hk]
  simp [cutOne, h, -List.take_append_getElem]
theorem cut_step_gt {Q : List Nat} {k : Nat} (hk : k < Q.length) (h : leB Q[k] 4607182418800017408 = false) : Q.take k ++ cutOne (Q.drop k) = Q.take k ++ [9218868437227405312] := by
  rw [List.drop_eq_getElem_cons hk]
  simp [cutOne, h]

theorem own_setCell_below {w : World} {base : Nat} {e n : Nat} {v : Value} {xs : List Value} (h : w.ownsRow base e 1 v n xs) {a : Addr} (ha : a.block < base) (u : Value) : (w.setCell a u).ownsRow base e 1 v n xs :=
  ownsRow_setCell_below h ha u

theorem wpList_want {P : Program} {ops : Array Oper} {Q : Exit → Act → World → Prop} {a : Act} {w : World} {rest : List Oper} {o : Oper} (hw : Region.wanted o (yielded ops a.tmps) = true)
    (h : ∀ K : Act → World → Prop, (∀ a w, wpList P ops Q rest a w → K a w) → o.wp P a w K Q) : wpList P ops Q (o :: rest) a w :=
  wpList_step fun K hK => by simp only [hw, if_true]; exact h K hK

/-- append([]float64{}, bounds...): a copy in a row of the call's own. -/
theorem wpList_copyF {ops : Array Oper} {Q : Exit → Act → World → Prop} {a : Act} {w : World} {rest : List Oper} {o : Oper} (hw : Region.wanted o (yielded ops a.tmps) = true) (s x : Operand)
    (ho : o.op = .call { callee := .builtin .append, args := #[s, x], argTypes := #[23, 23] })
    (hs : a.eval s = .slice (some ⟨w.heap.size, 0, none⟩) 0 0) (b off c n : Nat) (hx : a.eval x = .slice (some ⟨b, off, none⟩) n c) (xs : List Nat) (hn : n = xs.length) (hr : RdF w (.slice (some ⟨b, off, none⟩) n c) xs) (hsz : xs.length ≤ 2147483647) (h0 : 0 < xs.length)
    (h : ∀ v' w', RdF w' v' xs → Below w.heap.size w w' → wpList Try.prog ops Q rest (a.put o.dst v') w') : wpList Try.prog ops Q (o :: rest) a (w.alloc (.cells #[] 25)) := by
  obtain ⟨i0, hi, hz0, hz1, hz2⟩ := info_parts info_f64
  obtain ⟨a', cap, b', off', hv, hl, hm, ha, hc⟩ := hr
  obtain rfl : a' = some ⟨b', off', none⟩ := ha.resolve_left (by intro h; simp [h] at h0)
  cases hv
  have hal : Below w.heap.size w (w.alloc (.cells #[] 25)) := (Below.refl _ w).alloc (Nat.le_refl _) _
  have hc2 : ∀ i x, xs[i]? = some x → (w.alloc (.cells #[] 25)).cell? ⟨b, off + i, none⟩ = some (.float .f64 x) := by
    intro i x hx
    have := hc i x hx
    rw [hal.cell (p := ⟨b, off + i, none⟩) (World.block_lt_of_cell? w _ this)]
    exact this
  refine wpList_want hw fun K hK => ?_
  refine wp_append_own _ s x 23 ho w.heap.size 25 i0 (.float .f64 0) 1 8 Try.underlying23 hi hz0 hz1 hz2 rfl (by decide) _ 0 [] hs (World.ownsRow_lit (base := w.heap.size) (e := 25) (size := 1) w #[] 0 (Nat.le_refl _) (Nat.zero_le _) rfl) ⟨b, off, none⟩ xs.length c (xs.map (Value.float .f64)) (by rw [hx, hn]) (by simp) (cells_news hc2) (ones_map _ (fun _ => rfl) xs) (by unfold maxLen; omega) (by omega) (size_alloc_le _ _) ?_
  intro v' w' hown hg _
  refine hK _ _ (h v' w' (RdC.of_owns (n := 0 + xs.length) (by simpa using hown)) ?_)
  exact hal.grown hg (size_alloc_le _ _) (by intro k hk; cases hk; exact Nat.le_refl _)
end Go.Proofs.Yteibgcmpkgilfaa
