/- What is kept while the builder is written: the frame; groups read through it; the closure that writes. -/
import Derived.Test.YtkbppaddghfgpaaDoorGrs3
import Derived.Test.YtkbppaddghfgpaaDoorSpU2
set_option linter.unusedVariables false
set_option linter.unusedSimpArgs false
namespace Go.Proofs.YtkbppaddghfgpaaDoor
open Go.RowKit Go.Maps

/-- Between w and x only the builder in block b was written, and memory was made. -/
structure Fr (b : Nat) (w x : World) : Prop where
  bel : Below b w x
  oth : OthK b w x
theorem Fr.refl (b : Nat) (w : World) : Fr b w w := ⟨Below.refl _ _, Lib.OthersKept.refl _ _ _⟩
theorem Fr.trans {b : Nat} {w x y : World} (h : Fr b w x) (k : Fr b x y) : Fr b w y := ⟨h.bel.trans k.bel, h.oth.trans k.oth⟩
theorem Fr.of_below {b : Nat} {w x : World} (h : Below w.heap.size w x) (hb : b ≤ w.heap.size) : Fr b w x := by
  refine ⟨h.mono hb, fun k o hk _ _ => ?_⟩
  have hlt : k < w.heap.size := (Array.getElem?_eq_some_iff.1 hk).1
  rw [h.block k hlt]
  exact hk
theorem Fr.size {b : Nat} {w x : World} (h : Fr b w x) : w.heap.size ≤ x.heap.size := h.bel.size
theorem Fr.block {b k : Nat} {w x : World} {c : Array Value} {t : TypeId} {fz : Nat × Nat} (h : Fr b w x) (hk : w.heap[k]? = some (.cells c t fz)) (hb : k ≠ b) (ht : t ≠ 5) : x.heap[k]? = some (.cells c t fz) :=
  h.oth k _ hk (fun e => hb (Option.some.inj e)) (fun c' fz' e => by injection e with _ e2 _; exact ht e2)
theorem own_fr {b B : Nat} {w x : World} {t : TypeId} {s n : Nat} {v : Value} {xs : List Value} (h : Fr b w x) (ho : w.ownsRow B t s v n xs) (hB : b < B) (ht : t ≠ 5) : x.ownsRow B t s v n xs := by
  obtain ⟨h1, h2 | ⟨g, cap, cur, e1, e2, e3, e4⟩⟩ := ho
  · exact ⟨h1, .inl h2⟩
  · exact ⟨h1, .inr ⟨g, cap, cur, e1, e2, h.block e3 (by omega) ht, e4⟩⟩
/-- A row's slice, its block the same in every world of the frame. -/
theorem rowF_at {b B : Nat} {w : World} {t : TypeId} {v : Value} {g : List Ed} (ho : w.ownsRow B t 5 v g.length (fiv g)) (hB : b < B) (ht : t ≠ 5) :
    ∃ p cap eb, v = .slice p g.length cap ∧ g.length ≤ cap ∧ cap ≤ maxLen ∧ (g ≠ [] → p = some ⟨eb, 0, none⟩) ∧ ∀ x, Fr b w x → ∀ i e, g[i]? = some e → FiveAt x eb (i * 5) e := by
  have ho' := ho
  obtain ⟨h1, ⟨e1, e2⟩ | ⟨q, cap, cur, e1, e2, e3, e4, e5, e6⟩⟩ := ho
  · have hg : g = [] := List.eq_nil_of_length_eq_zero e2
    subst hg
    exact ⟨none, 0, 0, e1, Nat.le_refl _, by unfold maxLen; omega, fun h => absurd rfl h, fun x _ i e hi => by simp at hi⟩
  · refine ⟨_, cap, q, e1, e4, e5, fun _ => rfl, fun x hx i e hi => ?_⟩
    obtain ⟨p', cap', b', off', f1, _, _, f2, f3⟩ := RdF.of_owns (own_fr hx ho' hB ht)
    rw [e1] at f1
    injection f1 with f1 _ _
    rcases f2 with f2 | f2
    · rw [f2] at hi; simp at hi
    · rw [← f1] at f2
      injection f2 with f2
      injection f2 with f4 f5
      subst f4
      have := f3 i e hi
      rw [← f5, Nat.zero_add] at this
      exact this
theorem rowG_at {b B : Nat} {w : World} {tg te : TypeId} {vals : List Value} {gs : List (List Ed)} {v : Value} (h : GR w B tg te vals gs v) (hB : b < B) (h1 : tg ≠ 5) (h2 : te ≠ 5) :
    ∃ p cap gb, v = .slice p gs.length cap ∧ gs.length ≤ cap ∧ cap ≤ maxLen ∧ (gs ≠ [] → p = some ⟨gb, 0, none⟩) ∧ ∀ i g, gs[i]? = some g → g ≠ [] →
      ∃ ecap eb, g.length ≤ ecap ∧ ecap ≤ maxLen ∧ ∀ x, Fr b w x → x.cell? ⟨gb, i, none⟩ = some (.slice (some ⟨eb, 0, none⟩) g.length ecap) ∧ ∀ j e, g[j]? = some e → FiveAt x eb (j * 5) e := by
  have hall := h
  obtain ⟨hlen, hgrp, hv⟩ := h
  have hgrp' := hgrp
  obtain ⟨h3, ⟨e1, e2⟩ | ⟨q, cap, cur, e1, e2, e3, e4, e5, e6, e7⟩⟩ := hgrp
  · have hg : gs = [] := List.eq_nil_of_length_eq_zero e2
    subst hg
    exact ⟨none, 0, 0, e1, Nat.le_refl _, by unfold maxLen; omega, fun h => absurd rfl h, fun i e hi => by simp at hi⟩
  · refine ⟨_, cap, q, e1, e4, e5, fun _ => rfl, fun i g hi hg => ?_⟩
    have hil : i < vals.length := by rw [hlen]; exact (List.getElem?_eq_some_iff.1 hi).1
    have hvi : vals[i]? = some vals[i] := List.getElem?_eq_getElem hil
    generalize vals[i] = vi at hvi
    obtain ⟨⟨y, f1, f2⟩, _⟩ := hv i vi hvi
    rw [hi] at f1
    obtain rfl := Option.some.inj f1
    obtain ⟨p, ecap, eb, g1, g2, g3, g4, g5⟩ := rowF_at f2 hB h2
    have g6 := g4 hg
    subst g6 g1
    refine ⟨ecap, eb, g2, g3, fun x hx => ⟨?_, g5 x hx⟩⟩
    have hb := hx.block e3 (by omega) h1
    have h3 := hvi
    rw [← e7, List.getElem?_take] at h3
    split at h3
    · rw [Array.getElem?_toList] at h3
      simp only [World.cell?, hb, h3]
      rfl
    · cases h3

set_option maxHeartbeats 1000000 in
set_option maxRecDepth 100000 in
/-- The closure ws: it writes s. -/
theorem wsK (b P : Nat) (l : List UInt8) (s : ByteArray) (w : World) (h : Bld b b l w) (hp : w.cell? ⟨P, 0, none⟩ = some (.pointer (some ⟨b, 0, none⟩))) (hlen : l.length + s.size ≤ 140737488355328) (hbw : b ≤ w.heap.size) :
    Calls Tryd.prog 26 #[.string s, .pointer (some ⟨P, 0, none⟩)] w fun e w' => e = .returned .nilIface ∧ Bld b b (l ++ s.data.toList) w' ∧ Fr b w w' := by
  have HC := Lib.hid (WriteString_k b b l s w h hlen hbw)
  clear h
  go_enter Tryd.func26, Tryd.ntmps26
  go_wp2_with (go_at_call 27; go_must (refine HC.out.mono ?_))
  rintro e w2 ⟨rfl, h1, h2, h3⟩
  go_wp2_with fail
  go_ret
  exact ⟨rfl, h1, h2, h3⟩
end Go.Proofs.YtkbppaddghfgpaaDoor
