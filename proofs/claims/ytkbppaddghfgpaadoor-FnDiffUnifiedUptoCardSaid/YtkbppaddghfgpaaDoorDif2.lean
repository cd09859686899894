/- The datum of the map from lines to places, round by round. -/
import Derived.Test.YtkbppaddghfgpaaDoorDif
import Derived.Maps.OwnRows
import Derived.Maps.Views
import Derived.Maps.OwnOps
import Derived.OwnWalk
import Derived.Carry
set_option linter.unusedVariables false
namespace Go.Proofs.YtkbppaddghfgpaaDoor
open Go.ChangeShapes (lits)
open Go.Maps

theorem idx_snoc {α : Type} [DecidableEq α] (b : List α) (x s : α) : idxL (b ++ [x]) s = idxL b s ++ (if x = s then [b.length] else []) := by
  unfold idxL
  rw [List.length_append, List.length_singleton, List.range_succ, List.filter_append]
  congr 1
  · refine List.filter_congr fun j hj => ?_
    have := List.mem_range.1 hj
    rw [List.getElem?_append_left this]
  · by_cases h : x = s <;> simp [h]
def keyL (s : ByteArray) : Lit := .string s.data.toList
theorem keyL_inj {s t : ByteArray} (h : keyL s = keyL t) : s = t := by
  unfold keyL at h
  injection h with h
  exact Go.WideShapes.bytes_inj h
def ixD {H : Type} (l : List Nat) : DataW H := if l = [] then .nil else .slice (lits .i64 (l.map fun (n : Nat) => (n : Int))) []
def gD {H : Type} (b : List ByteArray) : Nat → DataW H
  | 0 => .map []
  | k + 1 => match b[k]? with
    | some s => (gD b k).put (keyL s) (ixD (idxL (b.take (k + 1)) s))
    | none => gD b k
theorem gD_map {H : Type} (b : List ByteArray) : ∀ k, IsMap (gD (H := H) b k)
  | 0 => ⟨_, rfl⟩
  | k + 1 => by
    obtain ⟨es, he⟩ := gD_map (H := H) b k
    unfold gD
    split
    · rw [he]; exact ⟨_, rfl⟩
    · exact ⟨es, he⟩
theorem gD_at {H : Type} (b : List ByteArray) (s : ByteArray) : ∀ k, k ≤ b.length → (gD (H := H) b k).atKey (keyL s) .nil = ixD (idxL (b.take k) s)
  | 0, _ => by
    show (DataW.nil : DataW H) = _
    unfold ixD
    rw [if_pos (by simp [idxL])]
  | k + 1, h => by
    have ih := gD_at (H := H) b s k (by omega)
    have e : b.take (k + 1) = b.take k ++ [b[k]] := List.take_succ_eq_append_getElem h
    unfold gD
    rw [List.getElem?_eq_getElem h]
    simp only
    by_cases hs : b[k] = s
    · have hkl : Go.WideAt.IsKeyLit (keyL s) := by unfold keyL; trivial
      rw [hs, atKey_put_same (gD_map b k) hkl]
    · rw [atKey_put_other (fun hk => hs (keyL_inj hk).symm), ih, e, idx_snoc, if_neg hs, List.append_nil]
end Go.Proofs.YtkbppaddghfgpaaDoor
