/- sort.Strings on a slice of the call's own. -/
import Derived.Test.YtojlpfakdodnfaaGreatDoorChg
import Derived.Test.YtojlpfakdodnfaaGreatDoorShelf
import Derived.Sort.KeysCollected
import Derived.Sort.OwnSorted
set_option linter.unusedVariables false
namespace Go.Proofs.YtojlpfakdodnfaaGreatDoor
open Go.RowKit Go.Sort

theorem row_at {w : World} {B N n cap : Nat} {t : TypeId} {xs : List Value} (ho : w.ownsRow B t 1 (.slice (some ⟨N, 0, none⟩) n cap) n xs) :
    n ≤ cap ∧ cap ≤ maxLen ∧ N < w.heap.size ∧ xs.length = n ∧ ∀ i x, xs[i]? = some x → w.cell? ⟨N, i, none⟩ = some x := by
  obtain ⟨p, c, g, e1, h1, h2, h3, h4, h5, h6⟩ := row_cell ho
  have hN := (row_from ho _ rfl).2
  injection e1 with e1 _ e3
  subst e3
  refine ⟨h1, h2, hN, h3, fun i x hx => ?_⟩
  have hn : 0 < n := by
    have := (List.getElem?_eq_some_iff.1 hx).1
    omega
  have e4 := h4 hn
  rw [← e1] at e4
  injection e4 with e4
  injection e4 with e4
  subst e4
  exact h6 i x hx
theorem sortK {B N cap : Nat} (ss : List (List UInt8)) (w : World) (h : w.ownsRow B 9 1 (.slice (some ⟨N, 0, none⟩) ss.length cap) ss.length (ss.map encStr)) (hn : ss.length ≤ 281474976710656) :
    Calls Tryz.prog 65 #[.slice (some ⟨N, 0, none⟩) ss.length cap] w fun e w' => e = .returned (.tuple #[]) ∧ w'.ownsRow B 9 1 (.slice (some ⟨N, 0, none⟩) ss.length cap) ss.length ((ss.mergeSort leB).map encStr) ∧ Chg (fun i => i = N) w w' := by
  rcases h.2 with ⟨hnil, _⟩ | ⟨g, cap', cur, e1, hbase, hb, h1, h2, h3, h4⟩
  · cases hnil
  · injection e1 with e1 e2 e3
    injection e1 with e1
    injection e1 with e1
    subst e1 e3
    refine (Tryz.sort_Strings N 0 cap ss w (holds_of_block hb (by simpa using h4)) (Array.getElem?_eq_some_iff.1 hb).1 (by omega)).mono ?_
    rintro e w' ⟨rfl, nn, os, rfl⟩
    exact ⟨rfl, ownsRow_sorted (by simp) hbase hb h1 h2 h3, (Chg.refl _ _).grown (grownBy_sorted _) (fun q hq => by cases hq; exact .inl rfl)⟩
end Go.Proofs.YtojlpfakdodnfaaGreatDoor
