/- Worlds that differ in some of the old blocks and in new ones. -/
import Derived.Test.YtojlpfakdodnfaaGreatDoorFit
import Derived.WalkKit
import Derived.OwnWalk
import Derived.Below
import Derived.Maps.Own
import Derived.Deep.Draws
import Derived.Maps.OwnSet
import Derived.Lib.Hide
set_option linter.unusedVariables false
namespace Go.Proofs.YtojlpfakdodnfaaGreatDoor
open Go.RowKit Go.Maps

/-- Of the blocks of w only those of S may read otherwise in x; new ones may have come. -/
structure Chg (S : Nat → Prop) (w x : World) : Prop where
  os : x.os = w.os
  tape : x.tape = w.tape
  output : x.output = w.output
  size : w.heap.size ≤ x.heap.size
  block : ∀ k, k < w.heap.size → ¬ S k → x.heap[k]? = w.heap[k]?
abbrev Non : Nat → Prop := fun _ => False
theorem Chg.refl (S : Nat → Prop) (w : World) : Chg S w w := ⟨rfl, rfl, rfl, Nat.le_refl _, fun _ _ _ => rfl⟩
theorem Chg.trans {S T : Nat → Prop} {w x y : World} (h : Chg S w x) (k : Chg T x y) (hT : ∀ i, T i → S i ∨ w.heap.size ≤ i) : Chg S w y := by
  refine ⟨k.os.trans h.os, k.tape.trans h.tape, k.output.trans h.output, Nat.le_trans h.size k.size, fun i hi hs => ?_⟩
  rw [k.block i (Nat.lt_of_lt_of_le hi h.size) (fun ht => (hT i ht).elim hs (fun h => absurd hi (Nat.not_lt.2 h)))]
  exact h.block i hi hs
theorem Chg.mono {S T : Nat → Prop} {w x : World} (h : Chg S w x) (hT : ∀ i, S i → T i) : Chg T w x := ⟨h.os, h.tape, h.output, h.size, fun i hi hs => h.block i hi (fun hS => hs (hT i hS))⟩
theorem Chg.alloc {S : Nat → Prop} {w x : World} (h : Chg S w x) (o : Obj) : Chg S w (x.alloc o) := by
  refine ⟨h.os, h.tape, h.output, Nat.le_trans h.size (by simp), fun i hi hs => ?_⟩
  rw [Below.heap_alloc _ _ i (Nat.lt_of_lt_of_le hi h.size)]
  exact h.block i hi hs
theorem Chg.drewN {S : Nat → Prop} {w x : World} (h : Chg S w x) (n : Nat) : Chg S w (x.drewN n) := ⟨h.os, h.tape, h.output, h.size, h.block⟩
theorem Chg.drew {S : Nat → Prop} {w x : World} (h : Chg S w x) : Chg S w x.drew := ⟨h.os, h.tape, h.output, h.size, h.block⟩
theorem Chg.setCell {S : Nat → Prop} {w x : World} (h : Chg S w x) {p : Addr} (hp : S p.block ∨ w.heap.size ≤ p.block) (v : Value) : Chg S w (x.setCell p v) := by
  refine ⟨h.os, h.tape, h.output, by simpa [World.setCell] using h.size, fun i hi hs => ?_⟩
  have hne : i ≠ p.block := by
    rcases hp with hp | hp
    · exact fun e => hs (by rw [e]; exact hp)
    · omega
  rw [Below.heap_setCell _ _ _ _ hne]
  exact h.block i hi hs
theorem Chg.grown {S : Nat → Prop} {w x y : World} {row : Option Nat} (h : Chg S w x) (hg : x.grownBy y row) (hr : ∀ q, row = some q → S q ∨ w.heap.size ≤ q) : Chg S w y := by
  refine ⟨hg.os.trans h.os, hg.tape.trans h.tape, hg.output.trans h.output, Nat.le_trans h.size hg.size, fun i hi hs => ?_⟩
  rw [hg.block i (Nat.lt_of_lt_of_le hi h.size) (fun e => (hr i e.symm).elim hs (fun h => absurd hi (Nat.not_lt.2 h)))]
  exact h.block i hi hs
theorem Chg.below {S : Nat → Prop} {B : Nat} {w x : World} (h : Chg S w x) (hS : ∀ i, S i → B ≤ i) (hB : B ≤ w.heap.size) : Below B w x :=
  ⟨h.os, h.tape, h.output, h.size, fun i hi => h.block i (Nat.lt_of_lt_of_le hi hB) (fun hs => absurd hi (Nat.not_lt.2 (hS i hs)))⟩
theorem Chg.non {w x : World} (h : Chg Non w x) : Below w.heap.size w x := h.below (fun _ h => h.elim) (Nat.le_refl _)
theorem Chg.of_below {w x : World} (h : Below w.heap.size w x) (S : Nat → Prop) : Chg S w x := ⟨h.os, h.tape, h.output, h.size, fun i hi _ => h.block i hi⟩
theorem Chg.cell {S : Nat → Prop} {w x : World} (h : Chg S w x) {p : Addr} (hp : p.block < w.heap.size) (hs : ¬ S p.block) : x.cell? p = w.cell? p := World.cell?_of_block (h.block _ hp hs)
theorem Chg.at {S : Nat → Prop} {w x : World} (h : Chg S w x) {p : Addr} {v : Value} (hc : w.cell? p = some v) (hs : ¬ S p.block) : x.cell? p = some v := (h.cell (World.block_lt_of_cell? w _ hc) hs).trans hc
theorem Chg.obj {S : Nat → Prop} {w x : World} (h : Chg S w x) {b : Nat} {o : Obj} (hb : w.heap[b]? = some o) (hs : ¬ S b) : x.heap[b]? = some o := (h.block b (Array.getElem?_eq_some_iff.1 hb).1 hs).trans hb
theorem Chg.row {S : Nat → Prop} {w x : World} (h : Chg S w x) {B : Nat} {t : TypeId} {s n : Nat} {v : Value} {xs : List Value} (ho : w.ownsRow B t s v n xs) (hs : ∀ q, v.ownBlock = some q → ¬ S q) : x.ownsRow B t s v n xs := by
  obtain ⟨h1, h2 | ⟨g, cap, cur, e1, e2, e3, e4⟩⟩ := ho
  · exact ⟨h1, .inl h2⟩
  · exact ⟨h1, .inr ⟨g, cap, cur, e1, e2, h.obj e3 (hs g (by rw [e1]; rfl)), e4⟩⟩
theorem Chg.map {S : Nat → Prop} {w x : World} (h : Chg S w x) {H : Type} {k : TypeId} {R : Value → Option (DataW H × List MemPlace)} {b n : Nat} {D : DataW H} {P : Program} (ho : w.ownsMap P k R b n D) (hs : ¬ S b) : x.ownsMap P k R b n D := by
  obtain ⟨es, clock, hb, F⟩ := ho
  exact ⟨es, clock, h.obj hb hs, F⟩
theorem Chg.grownBy {w x : World} (h : Chg Non w x) (row : Option Nat) : w.grownBy x row := ⟨h.os, h.tape, h.output, h.size, fun k hk _ => h.block k hk (fun h => h)⟩
theorem row_shape {w : World} {B : Nat} {t : TypeId} {s n : Nat} {v : Value} {xs : List Value} (ho : w.ownsRow B t s v n xs) (hn : 0 < n) : ∃ g cap, v = .slice (some ⟨g, 0, none⟩) n cap := by
  obtain ⟨_, ⟨_, h3⟩ | ⟨g, cap, _, e1, _⟩⟩ := ho
  · omega
  · exact ⟨g, cap, e1⟩
/-- Rows that began at or behind a place lie there. -/
theorem row_from {w : World} {B : Nat} {t : TypeId} {s n : Nat} {v : Value} {xs : List Value} (ho : w.ownsRow B t s v n xs) : ∀ q, v.ownBlock = some q → B ≤ q ∧ q < w.heap.size := by
  intro q hq
  obtain ⟨h1, h2 | ⟨g, cap, cur, e1, e2, e3, e4⟩⟩ := ho
  · rw [h2.1] at hq; cases hq
  · rw [e1] at hq
    injection hq with hq
    subst hq
    exact ⟨e2, (Array.getElem?_eq_some_iff.1 e3).1⟩
theorem row_mono {w : World} {B B' : Nat} {t : TypeId} {s n : Nat} {v : Value} {xs : List Value} (ho : w.ownsRow B t s v n xs) (h : B' ≤ B) : w.ownsRow B' t s v n xs := by
  obtain ⟨h1, h2 | ⟨g, cap, cur, e1, e2, e3⟩⟩ := ho
  · exact ⟨h1, .inl h2⟩
  · exact ⟨h1, .inr ⟨g, cap, cur, e1, Nat.le_trans h e2, e3⟩⟩
theorem row_cell {w : World} {B : Nat} {t : TypeId} {n : Nat} {v : Value} {xs : List Value} (ho : w.ownsRow B t 1 v n xs) :
    ∃ p cap g, v = .slice p n cap ∧ n ≤ cap ∧ cap ≤ maxLen ∧ xs.length = n ∧ (0 < n → p = some ⟨g, 0, none⟩) ∧ (p = some ⟨g, 0, none⟩ → g < w.heap.size) ∧ ∀ i x, xs[i]? = some x → w.cell? ⟨g, i, none⟩ = some x := by
  obtain ⟨h1, ⟨h2, h3⟩ | ⟨g, cap, cur, e1, e2, e3, e4, e5, e6, e7⟩⟩ := ho
  · subst h3
    have hx : xs = [] := List.eq_nil_of_length_eq_zero (by omega)
    subst hx
    exact ⟨none, 0, 0, h2, Nat.le_refl _, by unfold maxLen; omega, rfl, fun h => absurd h (Nat.lt_irrefl 0), fun h => (by cases h), fun i x h => by simp at h⟩
  · refine ⟨_, cap, g, e1, e4, e5, by omega, fun _ => rfl, fun _ => (Array.getElem?_eq_some_iff.1 e3).1, fun i x hx => ?_⟩
    rw [← e7, List.getElem?_take] at hx
    split at hx
    · rw [Array.getElem?_toList] at hx
      simp only [World.cell?, e3]
      simpa using hx
    · cases hx
end Go.Proofs.YtojlpfakdodnfaaGreatDoor
