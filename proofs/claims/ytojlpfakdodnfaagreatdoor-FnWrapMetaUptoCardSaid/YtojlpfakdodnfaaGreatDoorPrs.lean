/- Slices of pairs of texts. -/
import Derived.Test.YtojlpfakdodnfaaGreatDoorChg
import Derived.Test.YtojlpfakdodnfaaGreatDoorSl
import Derived.Deep.DeepCutAuto
set_option linter.unusedVariables false
set_option linter.unusedSimpArgs false
namespace Go.Proofs.YtojlpfakdodnfaaGreatDoor
open Go.RowKit

/-- A slice of pairs. -/
def RdE (w : World) (v : Value) (xs : List Ent) : Prop :=
  ∃ (a : Option Addr) (cap b off : Nat), v = .slice a xs.length cap ∧ xs.length ≤ cap ∧ cap ≤ maxLen ∧ (xs = [] ∨ a = some ⟨b, off, none⟩) ∧
    ∀ i x, xs[i]? = some x → w.cell? ⟨b, off + i * 2, none⟩ = some (.string x.1) ∧ w.cell? ⟨b, off + i * 2 + 1, none⟩ = some (.string x.2)
theorem RdE.below {w w' : World} {v : Value} {xs : List Ent} (h : RdE w v xs) (hb : Below w.heap.size w w') : RdE w' v xs := by
  obtain ⟨a, cap, b, off, h1, h2, h3, h4, h5⟩ := h
  refine ⟨a, cap, b, off, h1, h2, h3, h4, fun i x hx => ?_⟩
  obtain ⟨c1, c2⟩ := h5 i x hx
  rw [hb.cell (p := ⟨b, off + i * 2, none⟩) (World.block_lt_of_cell? w _ c1), hb.cell (p := ⟨b, off + i * 2 + 1, none⟩) (World.block_lt_of_cell? w _ c2)]
  exact ⟨c1, c2⟩
theorem RdE.nil (w : World) : RdE w (.slice none 0 0) [] := ⟨none, 0, 0, 0, rfl, Nat.le_refl _, Nat.zero_le _, .inl rfl, by simp⟩
def twoV (xs : List Ent) : List Value := xs.flatMap fun x => [.string x.1, .string x.2]
theorem twoV_len (xs : List Ent) : (twoV xs).length = xs.length * 2 := by
  induction xs with
  | nil => rfl
  | cons x r ih => simp [twoV] at ih ⊢; omega
theorem twoV_get : ∀ (xs : List Ent) (i : Nat) (x : Ent), xs[i]? = some x → (twoV xs)[i * 2]? = some (.string x.1) ∧ (twoV xs)[i * 2 + 1]? = some (.string x.2)
  | y :: r, 0, x, h => by simp at h; subst h; exact ⟨rfl, rfl⟩
  | y :: r, i + 1, x, h => by
    have := twoV_get r i x (by simpa using h)
    rw [show (i + 1) * 2 = i * 2 + 2 by omega]
    exact this
theorem twoV_snoc (xs : List Ent) (x : Ent) : twoV (xs ++ [x]) = twoV xs ++ [.string x.1, .string x.2] := by simp [twoV]
theorem twoV_app (xs ys : List Ent) : twoV (xs ++ ys) = twoV xs ++ twoV ys := by simp [twoV]
theorem RdE.of_owns {w : World} {base : Nat} {e : TypeId} {v : Value} {n : Nat} {xs : List Ent} (h : w.ownsRow base e 2 v n (twoV xs)) : RdE w v xs := by
  obtain ⟨hl, h⟩ := h
  rw [twoV_len] at hl
  have hn : xs.length = n := by omega
  rcases h with ⟨rfl, rfl⟩ | ⟨q, cap, cur, rfl, hb, hg, hc, hm, hs, ht⟩
  · obtain rfl := List.eq_nil_of_length_eq_zero hn
    exact RdE.nil w
  · refine ⟨_, cap, q, 0, by rw [hn], by omega, hm, .inr rfl, fun i x hx => ?_⟩
    have hi : i < n := by rw [← hn]; exact (List.getElem?_eq_some_iff.1 hx).1
    obtain ⟨g1, g2⟩ := twoV_get xs i x hx
    rw [← ht, List.getElem?_take_of_lt (by omega), Array.getElem?_toList] at g1 g2
    rw [Lib.cell_of_heap hg, Lib.cell_of_heap hg, Nat.zero_add]
    exact ⟨g1, g2⟩
theorem RdE.ofG {Q : Ent → Prop} {w : World} {v : Value} {xs : List Ent} (h : RdG 2 (fun _ cs x => cs = [.string x.1, .string x.2] ∧ Q x) w v xs) : RdE w v xs ∧ ∀ x ∈ xs, Q x := by
  obtain ⟨a, cap, b, off, h1, h2, h3, h4, h5⟩ := h
  refine ⟨⟨a, cap, b, off, h1, h2, h3, h4, fun i x hx => ?_⟩, fun x hx => ?_⟩
  · obtain ⟨cs, _, ⟨rfl, _⟩, hc⟩ := h5 i x hx
    exact ⟨hc 0 _ rfl, hc 1 _ rfl⟩
  · obtain ⟨i, hi⟩ := List.mem_iff_getElem?.1 hx
    obtain ⟨cs, _, ⟨_, hq⟩, _⟩ := h5 i x hi
    exact hq
/-- Both texts are no longer than a text can be. -/
def Fine (x : Ent) : Prop := x.1.size ≤ maxLen ∧ x.2.size ≤ maxLen
end Go.Proofs.YtojlpfakdodnfaaGreatDoor
