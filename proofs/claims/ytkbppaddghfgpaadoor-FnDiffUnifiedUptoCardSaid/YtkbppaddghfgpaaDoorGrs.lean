/- Slices of slices of edits, copied one by one. -/
import Derived.Test.YtkbppaddghfgpaaDoorGrp3
import Derived.Test.YtkbppaddghfgpaaDoorOwn
set_option linter.unusedVariables false
set_option linter.unusedSimpArgs false
namespace Go.Proofs.YtkbppaddghfgpaaDoor
open Go.RowKit Go.Maps

theorem info_rowE : (Tryd.prog.info? 31).map (fun i => (i.zero, i.size, i.bytes)) = some (some (.slice none 0 0), 1, 24) := by kernel_rfl
theorem info_rowS : (Tryd.prog.info? 41).map (fun i => (i.zero, i.size, i.bytes)) = some (some (.slice none 0 0), 1, 24) := by kernel_rfl
/-- The groups so far: a row of slices (of type tg), each of a row of its own (of type te). -/
structure GR (w : World) (B : Nat) (tg te : TypeId) (vals : List Value) (gs : List (List Ed)) (vg : Value) : Prop where
  len : vals.length = gs.length
  grp : w.ownsRow B tg 1 vg gs.length vals
  old : ∀ (i : Nat) (vi : Value), vals[i]? = some vi → (∃ g, gs[i]? = some g ∧ w.ownsRow B te 5 vi g.length (fiv g)) ∧ Apart vi vg
theorem GR.nil (w : World) (B : Nat) (tg te : TypeId) : GR w B tg te [] [] (.slice none 0 0) := ⟨rfl, World.ownsRow_nil _ _ _ _, fun i vi hi => by simp at hi⟩
theorem GR.below {w w' : World} {B : Nat} {tg te : TypeId} {vals : List Value} {gs : List (List Ed)} {vg : Value} (h : GR w B tg te vals gs vg) (hb : Below w.heap.size w w') : GR w' B tg te vals gs vg := by
  refine ⟨h.len, own_below3 h.grp hb, fun i vi hi => ?_⟩
  obtain ⟨⟨g, h1, h2⟩, h3⟩ := h.old i vi hi
  exact ⟨⟨g, h1, own_below3 h2 hb⟩, h3⟩
theorem own_base {w : World} {B B' : Nat} {t : TypeId} {s n : Nat} {v : Value} {xs : List Value} (h : w.ownsRow B' t s v n xs) (hB : B ≤ B') : w.ownsRow B t s v n xs := by
  obtain ⟨h1, h2 | ⟨g, cap, cur, h3, h4, h5⟩⟩ := h
  · exact ⟨h1, .inl h2⟩
  · exact ⟨h1, .inr ⟨g, cap, cur, h3, Nat.le_trans hB h4, h5⟩⟩
/-- What was made behind the row lies apart from it. -/
theorem apart_new {w w1 : World} {B : Nat} {t t' : TypeId} {s s' n n' : Nat} {v vg : Value} {xs xs' : List Value} (hg : w.ownsRow B t s vg n xs) (hv : w1.ownsRow w.heap.size t' s' v n' xs') : Apart v vg := by
  intro k hk e
  have h1 := (hv.lt k hk).1
  have h2 := (hg.lt k e).2
  omega
theorem GR.next {w w' : World} {B H : Nat} {tg te : TypeId} {vals : List Value} {gs : List (List Ed)} {g : List Ed} {vg v vg' : Value} (h : GR w B tg te vals gs vg) (hav : Apart v vg) (hv : w.ownsRow B te 5 v g.length (fiv g))
    (ho : w'.ownsRow B tg 1 vg' (gs.length + 1) (vals ++ [v])) (hg : w.grownBy w' vg.ownBlock) (hl : vg'.ownBlock = vg.ownBlock ∨ vg'.ownBlock = some H) (hH : w.heap.size ≤ H) : GR w' B tg te (vals ++ [v]) (gs ++ [g]) vg' := by
  refine ⟨by rw [List.length_append, List.length_append, h.len]; rfl, by rw [List.length_append, List.length_singleton]; exact ho, fun i vi hi => ?_⟩
  rcases Nat.lt_or_ge i vals.length with hlt | hge
  · rw [List.getElem?_append_left hlt] at hi
    obtain ⟨⟨y, h1, h2⟩, h3⟩ := h.old i vi hi
    exact ⟨⟨y, by rw [List.getElem?_append_left (by rw [← h.len]; exact hlt)]; exact h1, h2.kept hg h3.ne⟩, h3.loc hl (fun k hk => Nat.lt_of_lt_of_le (h2.lt k hk).2 hH)⟩
  · rw [List.getElem?_append_right hge] at hi
    have hi0 : i - vals.length = 0 := by
      rcases Nat.eq_zero_or_pos (i - vals.length) with h0 | h0
      · exact h0
      · rw [List.getElem?_eq_none (by simp; omega)] at hi; cases hi
    rw [hi0] at hi
    simp at hi
    subst hi
    refine ⟨⟨g, ?_, hv.kept hg hav.ne⟩, hav.loc hl (fun k hk => Nat.lt_of_lt_of_le (hv.lt k hk).2 hH)⟩
    rw [List.getElem?_append_right (by rw [← h.len]; exact hge), ← h.len, hi0]
    rfl
theorem GR.read {w : World} {B : Nat} {tg te : TypeId} {vals : List Value} {gs : List (List Ed)} {v : Value} (h : GR w B tg te vals gs v) : RdL w v gs := by
  obtain ⟨hlen, ⟨hl, ⟨rfl, h0⟩ | ⟨g, cap, cur, rfl, hB, hb, hc, hm, hs, ht⟩⟩, hv⟩ := h
  · have hn : gs = [] := List.eq_nil_of_length_eq_zero h0
    subst hn
    exact ⟨none, 0, 0, 0, rfl, Nat.le_refl _, by unfold maxLen; omega, .inl rfl, fun i g hg => by simp at hg⟩
  · refine ⟨_, cap, g, 0, rfl, hc, hm, .inr rfl, fun i x hx => ?_⟩
    have hi : i < vals.length := by rw [hlen]; exact (List.getElem?_eq_some_iff.1 hx).1
    obtain ⟨⟨y, h1, h2⟩, _⟩ := hv i vals[i] (List.getElem?_eq_getElem hi)
    rw [hx] at h1
    obtain rfl := Option.some.inj h1
    refine ⟨vals[i], ?_, RdF.of_owns h2⟩
    have h3 : vals[i]? = some vals[i] := List.getElem?_eq_getElem hi
    generalize vals[i] = vi at h3
    rw [← ht, List.getElem?_take] at h3
    split at h3
    · rw [Array.getElem?_toList] at h3
      simp only [World.cell?, hb, Nat.zero_add, h3]
      rfl
    · cases h3
theorem GLv.gr {w : World} {B0 : Nat} {vals : List Value} {gs : List (List Ed)} {cur : List Ed} {vg vc : Value} (h : GLv w B0 vals gs cur vg vc) : GR w B0 49 63 vals gs vg :=
  ⟨h.len, h.grp, fun i vi hi => ⟨(h.old i vi hi).1, (h.old i vi hi).2.1⟩⟩
theorem GLv.lastG {w w' : World} {B0 H : Nat} {vals : List Value} {gs : List (List Ed)} {cur : List Ed} {vg vc vg' : Value} (h : GLv w B0 vals gs cur vg vc) (ho : w'.ownsRow B0 49 1 vg' (gs.length + 1) (vals ++ [vc]))
    (hg : w.grownBy w' vg.ownBlock) (hl : vg'.ownBlock = vg.ownBlock ∨ vg'.ownBlock = some H) (hH : w.heap.size ≤ H) : GR w' B0 49 63 (vals ++ [vc]) (gs ++ [cur]) vg' :=
  ⟨by rw [List.length_append, List.length_append, h.len]; rfl, by rw [List.length_append, List.length_singleton]; exact ho, h.push ho hg hl hH⟩
/-- How many edits. -/
theorem edits_len2 {a b : List ByteArray} {L : ByteArray → List Nat} (hL : ∀ v j, j ∈ L v → b[j]? = some v) : (edits (gmb a b L)).length ≤ 2 * a.length + 4 := by
  obtain ⟨h1, h2⟩ := gmb_bound (a := a) hL
  have h3 := (op_ok (la := a.length) (lb := b.length) (gmb a b L) h1 ([], 0, 0) (Nat.zero_le _) (Nat.zero_le _)).2.2
  rw [List.length_nil, Nat.zero_add] at h3
  unfold edits
  omega
def SaidGs (gs : List (List Ed)) (w w' : World) (e : Ending) : Prop := (∃ v, e = .returned v ∧ RdL w' v gs) ∧ Below w.heap.size w w'
end Go.Proofs.YtkbppaddghfgpaaDoor
