/- Groups as they are built: a row of slices, each of a row of its own. -/
import Derived.Test.YtkbppaddghfgpaaDoorGrp
set_option linter.unusedVariables false
set_option linter.unusedSimpArgs false
namespace Go.Proofs.YtkbppaddghfgpaaDoor
open Go.RowKit Go.Maps

def Apart (u v : Value) : Prop := ∀ k, u.ownBlock = some k → v.ownBlock ≠ some k
theorem Apart.symm {u v : Value} (h : Apart u v) : Apart v u := fun k hv hu => h k hu hv
theorem Apart.ne {u v : Value} (h : Apart u v) : u.ownBlock = none ∨ u.ownBlock ≠ v.ownBlock := by
  cases hu : u.ownBlock with
  | none => exact .inl rfl
  | some k => exact .inr (fun e => h k hu e.symm)
theorem Apart.loc {u v v' : Value} {H : Nat} (h : Apart u v) (hl : v'.ownBlock = v.ownBlock ∨ v'.ownBlock = some H) (hu : ∀ k, u.ownBlock = some k → k < H) : Apart u v' := by
  intro k hk hv
  rcases hl with hl | hl
  · exact h k hk (hl ▸ hv)
  · rw [hl] at hv
    have := hu k hk
    injection hv with hv
    omega
/-- The groups so far, and the group that grows. -/
structure GLv (w : World) (B0 : Nat) (vals : List Value) (gs : List (List Ed)) (cur : List Ed) (vg vc : Value) : Prop where
  len : vals.length = gs.length
  grp : w.ownsRow B0 49 1 vg gs.length vals
  cur : w.ownsRow B0 63 5 vc cur.length (fiv cur)
  far : Apart vg vc
  old : ∀ (i : Nat) (vi : Value), vals[i]? = some vi → (∃ g, gs[i]? = some g ∧ w.ownsRow B0 63 5 vi g.length (fiv g)) ∧ Apart vi vg ∧ Apart vi vc
def GL (w : World) (B0 : Nat) (gs : List (List Ed)) (cur : List Ed) (vg vc : Value) : Prop := ∃ vals, GLv w B0 vals gs cur vg vc
theorem GLv.grown {w w' : World} {B0 : Nat} {vals : List Value} {gs : List (List Ed)} {cur : List Ed} {vg vc : Value} (h : GLv w B0 vals gs cur vg vc) (hg : w.grownBy w' none) : GLv w' B0 vals gs cur vg vc := by
  have key : ∀ v : Value, v.ownBlock = none ∨ v.ownBlock ≠ none := fun v => by cases v.ownBlock <;> simp
  exact ⟨h.len, h.grp.kept hg (key _), h.cur.kept hg (key _), h.far, fun i vi hi => by
    obtain ⟨⟨g, h1, h2⟩, h3, h4⟩ := h.old i vi hi
    exact ⟨⟨g, h1, h2.kept hg (key _)⟩, h3, h4⟩⟩
theorem GLv.app {w w' : World} {B0 H : Nat} {vals : List Value} {gs : List (List Ed)} {cur cur' : List Ed} {vg vc vc' : Value} (h : GLv w B0 vals gs cur vg vc) (ho : w'.ownsRow B0 63 5 vc' cur'.length (fiv cur'))
    (hg : w.grownBy w' vc.ownBlock) (hl : vc'.ownBlock = vc.ownBlock ∨ vc'.ownBlock = some H) (hH : w.heap.size ≤ H) : GLv w' B0 vals gs cur' vg vc' := by
  refine ⟨h.len, h.grp.kept hg h.far.ne, ho, h.far.loc hl (fun k hk => Nat.lt_of_lt_of_le (h.grp.lt k hk).2 hH), fun i vi hi => ?_⟩
  obtain ⟨⟨g, h1, h2⟩, h3, h4⟩ := h.old i vi hi
  exact ⟨⟨g, h1, h2.kept hg h4.ne⟩, h3, h4.loc hl (fun k hk => Nat.lt_of_lt_of_le (h2.lt k hk).2 hH)⟩
theorem GLv.push {w w' : World} {B0 H : Nat} {vals : List Value} {gs : List (List Ed)} {cur : List Ed} {vg vc vg' : Value} (h : GLv w B0 vals gs cur vg vc) (ho : w'.ownsRow B0 49 1 vg' (gs.length + 1) (vals ++ [vc]))
    (hg : w.grownBy w' vg.ownBlock) (hl : vg'.ownBlock = vg.ownBlock ∨ vg'.ownBlock = some H) (hH : w.heap.size ≤ H) :
    ∀ (i : Nat) (vi : Value), (vals ++ [vc])[i]? = some vi → (∃ g, (gs ++ [cur])[i]? = some g ∧ w'.ownsRow B0 63 5 vi g.length (fiv g)) ∧ Apart vi vg' := by
  intro i vi hi
  rcases Nat.lt_or_ge i vals.length with hlt | hge
  · rw [List.getElem?_append_left hlt] at hi
    obtain ⟨⟨g, h1, h2⟩, h3, h4⟩ := h.old i vi hi
    exact ⟨⟨g, by rw [List.getElem?_append_left (by rw [← h.len]; exact hlt)]; exact h1, h2.kept hg h3.ne⟩, h3.loc hl (fun k hk => Nat.lt_of_lt_of_le (h2.lt k hk).2 hH)⟩
  · rw [List.getElem?_append_right hge] at hi
    have hi0 : i - vals.length = 0 := by
      rcases Nat.eq_zero_or_pos (i - vals.length) with h0 | h0
      · exact h0
      · rw [List.getElem?_eq_none (by simp; omega)] at hi; cases hi
    rw [hi0] at hi
    simp at hi
    subst hi
    refine ⟨⟨cur, ?_, h.cur.kept hg h.far.symm.ne⟩, h.far.symm.loc hl (fun k hk => Nat.lt_of_lt_of_le (h.cur.lt k hk).2 hH)⟩
    rw [List.getElem?_append_right (by rw [← h.len]; exact hge), ← h.len, hi0]
    rfl
theorem GLv.fresh {w w' : World} {B0 H : Nat} {vals : List Value} {gs : List (List Ed)} {cur : List Ed} {vg vc vg' : Value} (h : GLv w B0 vals gs cur vg vc) (ho : w'.ownsRow B0 49 1 vg' (gs.length + 1) (vals ++ [vc]))
    (hg : w.grownBy w' vg.ownBlock) (hl : vg'.ownBlock = vg.ownBlock ∨ vg'.ownBlock = some H) (hH : w.heap.size ≤ H) (hB : B0 ≤ w'.heap.size) :
    GLv (w'.alloc (.cells #[] 63)) B0 (vals ++ [vc]) (gs ++ [cur]) [] vg' (.slice (some ⟨w'.heap.size, 0, none⟩) 0 0) := by
  have hp := h.push ho hg hl hH
  have key : ∀ v : Value, v.ownBlock = none ∨ v.ownBlock ≠ none := fun v => by cases v.ownBlock <;> simp
  have hal := World.grownBy_alloc w' (.cells #[] 63) none
  have far : ∀ v : Value, (∀ k, v.ownBlock = some k → k < w'.heap.size) → Apart v (.slice (some ⟨w'.heap.size, 0, none⟩) 0 0) := fun v hv k hk e => by
    have h1 := hv k hk
    have h2 : w'.heap.size = k := Option.some.inj e
    omega
  refine ⟨by rw [List.length_append, List.length_append, h.len]; rfl, ?_, World.ownsRow_made w' #[] 0 hB (by unfold maxLen; omega) rfl, far vg' (fun k hk => (ho.lt k hk).2), fun i vi hi => ?_⟩
  · rw [List.length_append, List.length_singleton]
    exact ho.kept hal (key _)
  · obtain ⟨⟨g, h1, h2⟩, h3⟩ := hp i vi hi
    exact ⟨⟨g, h1, h2.kept hal (key _)⟩, h3, far vi (fun k hk => (h2.lt k hk).2)⟩
theorem rdL_of {w : World} {B0 : Nat} {vg : Value} {vals : List Value} {gs : List (List Ed)} (hlen : vals.length = gs.length) (h : w.ownsRow B0 49 1 vg gs.length vals)
    (hv : ∀ (i : Nat) (vi : Value), vals[i]? = some vi → ∃ g, gs[i]? = some g ∧ w.ownsRow B0 63 5 vi g.length (fiv g)) : RdL w vg gs := by
  obtain ⟨hl, ⟨rfl, h0⟩ | ⟨g, cap, cur, rfl, hB, hb, hc, hm, hs, ht⟩⟩ := h
  · have hn : gs = [] := List.eq_nil_of_length_eq_zero h0
    subst hn
    exact ⟨none, 0, 0, 0, rfl, Nat.le_refl _, by unfold maxLen; omega, .inl rfl, fun i g hg => by simp at hg⟩
  · refine ⟨_, cap, g, 0, rfl, hc, hm, .inr rfl, fun i x hx => ?_⟩
    have hi : i < vals.length := by rw [hlen]; exact (List.getElem?_eq_some_iff.1 hx).1
    obtain ⟨y, h1, h2⟩ := hv i vals[i] (List.getElem?_eq_getElem hi)
    rw [hx] at h1
    obtain rfl := Option.some.inj h1
    refine ⟨vals[i], ?_, RdF.of_owns h2⟩
    have h3 : vals[i]? = some vals[i] := List.getElem?_eq_getElem hi
    generalize vals[i] = vi at h3
    rw [← ht, List.getElem?_take] at h3
    split at h3
    · rw [Array.getElem?_toList] at h3
      simp only [World.cell?, hb, Nat.zero_add, h3]
      rfl
    · cases h3
theorem GLv.read {w : World} {B0 : Nat} {vals : List Value} {gs : List (List Ed)} {cur : List Ed} {vg vc : Value} (h : GLv w B0 vals gs cur vg vc) : RdL w vg gs :=
  rdL_of h.len h.grp (fun i vi hi => (h.old i vi hi).1)
theorem GLv.last {w w' : World} {B0 H : Nat} {vals : List Value} {gs : List (List Ed)} {cur : List Ed} {vg vc vg' : Value} (h : GLv w B0 vals gs cur vg vc) (ho : w'.ownsRow B0 49 1 vg' (gs.length + 1) (vals ++ [vc]))
    (hg : w.grownBy w' vg.ownBlock) (hl : vg'.ownBlock = vg.ownBlock ∨ vg'.ownBlock = some H) (hH : w.heap.size ≤ H) : RdL w' vg' (gs ++ [cur]) :=
  rdL_of (by rw [List.length_append, List.length_append, h.len]; rfl) (by rw [List.length_append, List.length_singleton]; exact ho) (fun i vi hi => (h.push ho hg hl hH i vi hi).1)
theorem GLv.start (w : World) : GLv ((w.alloc (.cells #[] 49)).alloc (.cells #[] 63)) w.heap.size [] [] [] (.slice (some ⟨w.heap.size, 0, none⟩) 0 0) (.slice (some ⟨w.heap.size + 1, 0, none⟩) 0 0) := by
  have h1 := World.ownsRow_made (base := w.heap.size) (e := 49) (size := 1) w #[] 0 (Nat.le_refl _) (by unfold maxLen; omega) rfl
  have h2 := World.ownsRow_made (base := w.heap.size) (e := 63) (size := 5) (w.alloc (.cells #[] 49)) #[] 0 (by simp) (by unfold maxLen; omega) rfl
  have hs : (w.alloc (.cells #[] 49)).heap.size = w.heap.size + 1 := by simp
  rw [hs] at h2
  refine ⟨rfl, h1.kept (World.grownBy_alloc _ _ none) (.inr (by simp [Value.ownBlock])), h2, fun k hk e => ?_, fun i vi hi => by simp at hi⟩
  have e1 : w.heap.size = k := Option.some.inj hk
  have e2 : w.heap.size + 1 = k := Option.some.inj e
  omega
theorem cell_one1 (w : World) (v : Value) (t : TypeId) : ∀ (j : Nat) (u : Value), [v][j]? = some u → (w.alloc (.cells #[v] t)).cell? ((⟨w.heap.size, 0, none⟩ : Addr).add j) = some u := by
  intro j u hj
  match j, hj with
  | 0, hj =>
    simp at hj
    subst hj
    simp [Addr.add]
theorem own_shapeG {w : World} {B e size n : Nat} {v : Value} {xs : List Value} (h : w.ownsRow B e size v n xs) : ∃ a c, v = .slice a n c := by
  rcases h.2 with ⟨rfl, rfl⟩ | ⟨g, cap, cur, rfl, _⟩
  · exact ⟨_, _, rfl⟩
  · exact ⟨_, _, rfl⟩
theorem own_one {w : World} {B0 n : Nat} {t : TypeId} {s : Nat} {v : Value} {xs : List Value} (h : w.ownsRow B0 t s v n xs) : v.oneCell' = true := by
  obtain ⟨_, ⟨rfl, _⟩ | ⟨_, _, _, rfl, _⟩⟩ := h <;> rfl
end Go.Proofs.YtkbppaddghfgpaaDoor
