/- Helpers for functions that answer a struct in a boxed variable. -/
import Derived.Test.YtojlpfakdodnfaaGreatDoorMet
import Derived.Test.YtojlpfakdodnfaaGreatDoorAlk3a
import Derived.Laws.ResultCell
import Derived.Laws.Rows
set_option linter.unusedVariables false
set_option linter.unusedSimpArgs false
namespace Go.Proofs.YtojlpfakdodnfaaGreatDoor
open Go.RowKit

theorem row_ne_out {wa : World} {B n R : Nat} {v : Value} {xs : List Value} {cs : Array Value} {fr : Nat × Nat} (h : wa.ownsRow B 9 1 v n xs) (hR : wa.heap[R]? = some (.cells cs 25 fr)) : ∀ q, v.ownBlock = some q → ¬ q = R := by
  intro q hq e
  subst e
  rcases h.2 with ⟨rfl, _⟩ | ⟨g, cap, cur, rfl, _, hb, _⟩
  · cases hq
  · have hq' : some g = some q := hq
    injection hq' with hq'
    subst hq'
    rw [hb] at hR
    injection hR with hR
    injection hR with _ h2
    exact absurd h2 (by decide)
theorem out_done {wa : World} {B n R : Nat} {v a b c d e : Value} {xs : List ByteArray} {cs : Array Value} (hR : wa.heap[R]? = some (.cells cs 25 (0, 0))) (hz : cs.size = 5) (hown : wa.ownsRow B 9 1 v n (xs.map Value.string)) :
    (((((wa.setCell ⟨R, 0, none⟩ a).setCell ⟨R, 1, none⟩ b).setCell ⟨R, 2, none⟩ c).setCell ⟨R, 3, none⟩ d).setCell ⟨R, 4, none⟩ e).heap[R]? = some (.cells #[a, b, c, d, e] 25 (0, 0)) ∧
    (((((wa.setCell ⟨R, 0, none⟩ a).setCell ⟨R, 1, none⟩ b).setCell ⟨R, 2, none⟩ c).setCell ⟨R, 3, none⟩ d).setCell ⟨R, 4, none⟩ e).ownsRow B 9 1 v n (xs.map Value.string) := by
  have hcS : Chg (fun i => i = R) wa (((((wa.setCell ⟨R, 0, none⟩ a).setCell ⟨R, 1, none⟩ b).setCell ⟨R, 2, none⟩ c).setCell ⟨R, 3, none⟩ d).setCell ⟨R, 4, none⟩ e) := (((((Chg.refl (fun i => i = R) wa).setCell (p := ⟨R, 0, none⟩) (.inl rfl) a).setCell (p := ⟨R, 1, none⟩) (.inl rfl) b).setCell (p := ⟨R, 2, none⟩) (.inl rfl) c).setCell (p := ⟨R, 3, none⟩) (.inl rfl) d).setCell (p := ⟨R, 4, none⟩) (.inl rfl) e
  exact ⟨row5 hR hz a b c d e, hcS.row hown (row_ne_out hown hR)⟩
theorem results_cell_row2 {P : Program} {fn : Func} {p u : Tmp} {ty : TypeId} (h : fn.results = #[.cell p ty, .tmp u]) (tmps : Array Value) (w : World) (g : Nat) (t : TypeId) (cs : Array Value) (fr : Nat × Nat) (d : TypeDesc)
    (hp : tmps.getD p undef = .pointer (some ⟨g, 0, none⟩)) (hg : w.heap[g]? = some (.cells cs t fr))
    (hu : P.underlying ty = some d) (hd : (match d with | .struct _ | .array _ _ => true | _ => false) = true) (hi : (P.info? ty).map (·.size) = some cs.size) :
    (results fn tmps).run P w = .ok (.tuple #[.agg cs, tmps.getD u undef]) w := by
  rw [results_cell_tmp h, hp]
  simp [asAddr, Result.andThen, run_loadVar_row w g t ty cs fr d hg hu hd hi]
theorem outA {w1 wa : World} {o r : Obj} (hg : ((w1.drew.alloc o).alloc r).grownBy wa (some (w1.heap.size + 1))) : wa.heap[w1.heap.size]? = some o :=
  (hg.block w1.heap.size (by simp; omega) (fun e => by injection e with e; omega)).trans ((Below.heap_alloc _ _ _ (by simp)).trans (heap_alloc_new w1.drew o))
theorem outB {w1 wa : World} {o r : Obj} (hg : ((w1.drew.alloc r).alloc o).grownBy wa (some w1.heap.size)) : wa.heap[w1.heap.size + 1]? = some o :=
  (hg.block (w1.heap.size + 1) (by simp) (fun e => by injection e with e; omega)).trans (heap_alloc2_new w1.drew r o)
theorem out5 {x : World} {R : Nat} {a b c d e : Value} {T : TypeId} (h : x.heap[R]? = some (.cells #[a, b, c, d, e] T (0, 0))) :
    x.cell? ⟨R, 0, none⟩ = some a ∧ x.cell? ⟨R, 1, none⟩ = some b ∧ x.cell? ⟨R, 2, none⟩ = some c ∧ x.cell? ⟨R, 3, none⟩ = some d ∧ x.cell? ⟨R, 4, none⟩ = some e ∧ x.frozen? ⟨R, 0, none⟩ = false ∧ x.frozen? ⟨R, 1, none⟩ = false ∧ x.frozen? ⟨R, 2, none⟩ = false ∧ x.frozen? ⟨R, 3, none⟩ = false ∧ x.frozen? ⟨R, 4, none⟩ = false :=
  ⟨by rw [Lib.cell_of_heap h]; rfl, by rw [Lib.cell_of_heap h]; rfl, by rw [Lib.cell_of_heap h]; rfl, by rw [Lib.cell_of_heap h]; rfl, by rw [Lib.cell_of_heap h]; rfl, Lib.frozen_of_heap h 0, Lib.frozen_of_heap h 1, Lib.frozen_of_heap h 2, Lib.frozen_of_heap h 3, Lib.frozen_of_heap h 4⟩
theorem TB.set {w x : World} {R i : Nat} {v : Value} (h : TB w x) (hR : w.heap.size ≤ R) : TB w (x.setCell ⟨R, i, none⟩ v) := Below.setCell (p := ⟨R, i, none⟩) h hR v
theorem TB.alloc2 {w x : World} (h : TB w x) (o : Obj) : TB w (x.alloc o) := Below.alloc h (Below.size h) o
theorem stp5 {w x : World} {R : Nat} (h : Below w.heap.size w x) (hR : w.heap.size ≤ R) (a b c d e : Value) : Stp w (((((x.setCell ⟨R, 0, none⟩ a).setCell ⟨R, 1, none⟩ b).setCell ⟨R, 2, none⟩ c).setCell ⟨R, 3, none⟩ d).setCell ⟨R, 4, none⟩ e) :=
  ((((Below.setCell (p := ⟨R, 0, none⟩) h hR a).setCell (p := ⟨R, 1, none⟩) hR b).setCell (p := ⟨R, 2, none⟩) hR c).setCell (p := ⟨R, 3, none⟩) hR d).setCell (p := ⟨R, 4, none⟩) hR e
end Go.Proofs.YtojlpfakdodnfaaGreatDoor
