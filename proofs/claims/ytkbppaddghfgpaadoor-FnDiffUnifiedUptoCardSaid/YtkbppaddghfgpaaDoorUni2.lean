/- The edits of a group follow one another. -/
import Derived.Test.YtkbppaddghfgpaaDoorUni
set_option linter.unusedVariables false
set_option linter.unusedSimpArgs false
namespace Go.Proofs.YtkbppaddghfgpaaDoor

def IncE : Nat → Nat → List Ed → Prop
  | _, _, [] => True
  | i, j, e :: r => i ≤ e.i1 ∧ j ≤ e.j1 ∧ e.i1 ≤ e.i2 ∧ e.j1 ≤ e.j2 ∧ IncE e.i2 e.j2 r
theorem IncE.le {i j i' j' : Nat} : ∀ {l : List Ed}, IncE i j l → i' ≤ i → j' ≤ j → IncE i' j' l
  | [], _, _, _ => trivial
  | e :: r, h, hi, hj => ⟨Nat.le_trans hi h.1, Nat.le_trans hj h.2.1, h.2.2.1, h.2.2.2.1, h.2.2.2.2⟩
/-- An edit is made narrower. -/
def Nar (c c1 : Ed) : Prop := c.i1 ≤ c1.i1 ∧ c1.i1 ≤ c1.i2 ∧ c1.i2 ≤ c.i2 ∧ c.j1 ≤ c1.j1 ∧ c1.j1 ≤ c1.j2 ∧ c1.j2 ≤ c.j2
theorem inc_cut {c c1 : Ed} (hn : Nar c c1) : ∀ (l cs : List Ed) (i j : Nat), IncE i j (l ++ c :: cs) → IncE i j (l ++ [c1]) ∧ IncE 0 0 (c1 :: cs)
  | [], cs, i, j, h => by
    obtain ⟨n1, n2, n3, n4, n5, n6⟩ := hn
    obtain ⟨h1, h2, h3, h4, h5⟩ := h
    exact ⟨⟨by omega, by omega, n2, n5, trivial⟩, ⟨Nat.zero_le _, Nat.zero_le _, n2, n5, h5.le n3 n6⟩⟩
  | e :: l, cs, i, j, h => by
    obtain ⟨h1, h2, h3, h4, h5⟩ := h
    obtain ⟨r1, r2⟩ := inc_cut hn l cs _ _ h5
    exact ⟨⟨h1, h2, h3, h4, r1⟩, r2⟩
theorem Nar.head {n : Nat} {c : Ed} (h1 : c.i1 ≤ c.i2) (h2 : c.j1 ≤ c.j2) : Nar c (headE n c) := by
  unfold Nar headE
  split
  · simp only; omega
  · omega
theorem Nar.last {n : Nat} {c : Ed} (h1 : c.i1 ≤ c.i2) (h2 : c.j1 ≤ c.j2) : Nar c (lastE n c) := by
  unfold Nar lastE
  split
  · simp only; omega
  · omega
theorem inc_mem : ∀ {l : List Ed} {i j : Nat}, IncE i j l → ∀ e ∈ l, e.i1 ≤ e.i2 ∧ e.j1 ≤ e.j2
  | [], _, _, _, e, he => by cases he
  | x :: l, i, j, h, e, he => by
    rcases List.mem_cons.1 he with rfl | he
    · exact ⟨h.2.2.1, h.2.2.2.1⟩
    · exact inc_mem h.2.2.2.2 e he
theorem codes1_inc {n : Nat} {l : List Ed} (hne : l ≠ []) (h : IncE 0 0 l) : IncE 0 0 (codes1 n l) := by
  match l, hne, h with
  | c :: cs, _, h => exact (inc_cut (Nar.head h.2.2.1 h.2.2.2.1) [] cs 0 0 h).2
theorem codes2_inc {n : Nat} {l : List Ed} (hne : l ≠ []) (h : IncE 0 0 l) : IncE 0 0 (codes2 n l) := by
  obtain ⟨l', c, rfl⟩ : ∃ l' c, l = l' ++ [c] := ⟨l.dropLast, l.getLast hne, (List.dropLast_concat_getLast hne).symm⟩
  have hc := inc_mem h c (by simp)
  have e : codes2 n (l' ++ [c]) = l' ++ [lastE n c] := by
    unfold codes2
    have hl : (l' ++ [c]).length - 1 = l'.length := by simp
    rw [hl, at0_mem (by simp)]
    simp
  rw [e]
  exact (inc_cut (Nar.last hc.1 hc.2) l' [] 0 0 h).1
theorem inc_app : ∀ {l1 l2 : List Ed} {i j : Nat}, IncE i j (l1 ++ l2) → IncE i j l1
  | [], _, _, _, _ => trivial
  | e :: l1, l2, i, j, h => ⟨h.1, h.2.1, h.2.2.1, h.2.2.2.1, inc_app h.2.2.2.2⟩
theorem step_inc {n : Nat} : ∀ (cs : List Ed) (s : List (List Ed) × List Ed), (∀ g ∈ s.1, IncE 0 0 g) → IncE 0 0 (s.2 ++ cs) →
    (∀ g ∈ (cs.foldl (grpStep n) s).1, IncE 0 0 g) ∧ IncE 0 0 (cs.foldl (grpStep n) s).2
  | [], s, h1, h2 => ⟨h1, by rwa [List.append_nil] at h2⟩
  | c :: cs, s, h1, h2 => by
    have hc := inc_mem h2 c (by simp)
    obtain ⟨a1, a2⟩ := inc_cut (Nar.last (n := n) hc.1 hc.2) s.2 cs 0 0 h2
    obtain ⟨b1, b2⟩ := inc_cut (Nar.head (n := n) hc.1 hc.2) s.2 cs 0 0 h2
    rw [List.foldl_cons]
    refine step_inc cs _ ?_ ?_
    · unfold grpStep
      split
      · intro g hg
        rcases List.mem_append.1 hg with hg | hg
        · exact h1 g hg
        · rw [List.mem_singleton.1 hg]; exact a1
      · exact h1
    · unfold grpStep
      split
      · exact b2
      · simpa using h2
theorem grp_inc {n : Nat} {l : List Ed} (h : IncE 0 0 l) : ∀ g ∈ grp n l, IncE 0 0 g := by
  have h0 : codes0 l ≠ [] ∧ IncE 0 0 (codes0 l) := by
    unfold codes0
    split
    · exact ⟨by simp, ⟨Nat.le_refl _, Nat.le_refl _, Nat.zero_le _, Nat.zero_le _, trivial⟩⟩
    · rename_i hl; exact ⟨hl, h⟩
  have h1 := codes1_inc (n := n) h0.1 h0.2
  have h1n : codes1 n (codes0 l) ≠ [] := fun e => by
    have := congrArg List.length e
    unfold codes1 at this
    rw [List.length_set] at this
    exact h0.1 (List.eq_nil_of_length_eq_zero this)
  have h2 := codes2_inc (n := n) h1n h1
  obtain ⟨s1, s2⟩ := step_inc (n := n) (codesN n l) ([], []) (fun g hg => by cases hg) (by rw [List.nil_append]; exact h2)
  unfold grp grpEnd
  split
  · intro g hg
    rcases List.mem_append.1 hg with hg | hg
    · exact s1 g hg
    · rw [List.mem_singleton.1 hg]; exact s2
  · exact s1
theorem inc_ends : ∀ {g : List Ed} {i j : Nat}, IncE i j g → g ≠ [] → i ≤ (at0 g (g.length - 1)).i2 ∧ j ≤ (at0 g (g.length - 1)).j2
  | [], _, _, _, h => absurd rfl h
  | [e], i, j, h, _ => by
    show i ≤ e.i2 ∧ j ≤ e.j2
    obtain ⟨h1, h2, h3, h4, _⟩ := h
    omega
  | e :: e' :: r, i, j, h, _ => by
    obtain ⟨h1, h2, h3, h4, h5⟩ := h
    have ih := inc_ends h5 (by simp)
    have e1 : at0 (e :: e' :: r) ((e :: e' :: r).length - 1) = at0 (e' :: r) ((e' :: r).length - 1) := by
      rw [at0_mem (by simp), at0_mem (by simp)]
      simp
    rw [e1]
    omega
theorem inc_first {g : List Ed} {i j : Nat} (h : IncE i j g) (hg : g ≠ []) : (at0 g 0).i1 ≤ (at0 g (g.length - 1)).i2 ∧ (at0 g 0).j1 ≤ (at0 g (g.length - 1)).j2 := by
  match g, h, hg with
  | e :: r, h, hg =>
    obtain ⟨h1, h2, h3, h4, h5⟩ := h
    exact inc_ends (g := e :: r) (i := e.i1) (j := e.j1) ⟨Nat.le_refl _, Nat.le_refl _, h3, h4, h5⟩ (by simp)
theorem edOk_inc {a b : List ByteArray} : ∀ {l : List Ed} {i j : Nat} {p : Option Bool}, EdOk a b i j p l → IncE i j l ∧ ∀ e ∈ l, OkE a.length b.length e
  | [], _, _, _, _ => ⟨trivial, fun e he => by cases he⟩
  | e :: r, i, j, p, h => by
    obtain ⟨h1, h2, h3, h4, h5, h6, h7, h8, h9⟩ := h
    obtain ⟨r1, r2⟩ := edOk_inc h9
    refine ⟨⟨by omega, by omega, h3, h5, r1⟩, fun x hx => ?_⟩
    rcases List.mem_cons.1 hx with rfl | hx
    · refine ⟨h3, h4, h5, h6, ?_⟩
      rcases h8 with ⟨h, _⟩ | ⟨g1, g2, g3⟩
      · exact .inl h
      · exact .inr ⟨g1, g3, g2⟩
    · exact r2 x hx
/-- A group as the text wants it. -/
def OkG (la lb : Nat) (g : List Ed) : Prop := g ≠ [] ∧ (∀ e ∈ g, OkE la lb e) ∧ (at0 g 0).i1 ≤ (at0 g (g.length - 1)).i2 ∧ (at0 g 0).j1 ≤ (at0 g (g.length - 1)).j2
theorem grp_okG {a b : List ByteArray} {n : Nat} {l : List Ed} (h : EdOk a b 0 0 none l) : ∀ g ∈ grp n l, OkG a.length b.length g := by
  obtain ⟨h1, h2⟩ := edOk_inc h
  intro g hg
  obtain ⟨g1, g2⟩ := grp_ok (n := n) h2 g hg
  exact ⟨g1, g2, inc_first (grp_inc h1 g hg) g1⟩
end Go.Proofs.YtkbppaddghfgpaaDoor
