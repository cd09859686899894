/- Rows of bytes that a call makes for itself: a string appended, the separator appended, the text read back. -/
import Derived.Test.YtojlpfakdodnfaaGreatDoorNew2
import Derived.Maps.AppendAt
import Derived.Lib.AppendStr
import Derived.Lib.BufferRead
import Derived.OwnWalk
set_option linter.unusedVariables false
namespace Go.Proofs.YtojlpfakdodnfaaGreatDoor
open Go.RowKit Go.Maps

def BR (B : Nat) (w : World) (v : Value) (l : List UInt8) : Prop := w.ownsRow B 5 1 v l.length (Lib.byteCells l)
theorem info_u8n : (Tryz.prog.info? 5).map (fun i => (i.zero, i.size, i.bytes)) = some (some (.int .u8 0), 1, 1) := by kernel_rfl
theorem strCells_bs (s : ByteArray) : Lib.strCells s = Lib.byteCells (bs s) := by
  simp [Lib.strCells, Lib.byteCells, bs]
theorem bs_length (s : ByteArray) : (bs s).length = s.size := by
  unfold bs
  rw [Array.length_toList]
  rfl
theorem byteCells_app (a b : List UInt8) : Lib.byteCells a ++ Lib.byteCells b = Lib.byteCells (a ++ b) := by simp [Lib.byteCells]
theorem BR.str {B : Nat} {w : World} {v : Value} {l : List UInt8} {s : ByteArray} (h : w.ownsRow B 5 1 v (l.length + s.size) (Lib.byteCells l ++ Lib.strCells s)) : BR B w v (l ++ bs s) := by
  unfold BR
  rw [List.length_append, bs_length, ← byteCells_app, ← strCells_bs]
  exact h
theorem BR.sep {B : Nat} {w : World} {v : Value} {l : List UInt8} (h : w.ownsRow B 5 1 v (l.length + 1) (Lib.byteCells l ++ [.int .u8 255])) : BR B w v (l ++ [255]) := by
  unfold BR
  rw [List.length_append, ← byteCells_app]
  exact h
theorem BR.shape {B : Nat} {w : World} {v : Value} {l : List UInt8} (h : BR B w v l) : ∃ p c, v = .slice p l.length c := by
  obtain ⟨h1, ⟨h2, h3⟩ | ⟨g, cap, cur, e1, _⟩⟩ := h
  · exact ⟨none, 0, by rw [h2, h3]⟩
  · exact ⟨_, cap, e1⟩
theorem BR.below {B C : Nat} {w x : World} {v : Value} {l : List UInt8} (h : BR B w v l) (hb : Below w.heap.size w x) : BR B x v l :=
  (Chg.of_below hb Non).row h (fun q _ h => h)
theorem BR.conv {B : Nat} {w : World} {v : Value} {l : List UInt8} (h : BR B w v l) : (convert 96 9 v).run Tryz.prog w = .ok (.string ⟨l.toArray⟩) w := by
  obtain ⟨h1, ⟨h2, h3⟩ | ⟨g, cap, cur, e1, e2, e3, e4, e5, e6, e7⟩⟩ := h
  · subst h2
    have : l = [] := List.eq_nil_of_length_eq_zero h3
    subst this
    exact Lib.run_convert_nil_bytes w 96 9 5 0 Tryz.underlying96 Tryz.underlying5 Tryz.underlying9
  · subst e1
    exact run_convert_bytes_back (P := Tryz.prog) w 96 9 5 ⟨g, 0, none⟩ cap l Tryz.underlying96 Tryz.underlying5 Tryz.underlying9 (Lib.bytes_of_row e3 (by first | exact e7 | simpa using e7))
theorem sepT_take (xs : List (List UInt8)) (k : Nat) (x : List UInt8) (h : xs[k]? = some x) : sepT (xs.take (k + 1)) = sepT (xs.take k) ++ x ++ [255] := by
  unfold sepT
  rw [List.take_add_one, h]
  simp
end Go.Proofs.YtojlpfakdodnfaaGreatDoor
