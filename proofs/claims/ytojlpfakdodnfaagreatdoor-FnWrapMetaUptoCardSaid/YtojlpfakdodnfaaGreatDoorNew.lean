/- NewDesc: its first steps. -/
import Derived.Test.YtojlpfakdodnfaaGreatDoorLab
import Derived.Test.YtojlpfakdodnfaaGreatDoorVlv
import Derived.Sort.KeysCollected
import Derived.Sort.OwnSorted
import Derived.Laws.Rows
set_option linter.unusedVariables false
set_option linter.unusedSimpArgs false
namespace Go.Proofs.YtojlpfakdodnfaaGreatDoor
open Go.RowKit Go.Maps Go.Sort

theorem hset {w : World} {b i : Nat} {cs : Array Value} {T : TypeId} {fr : Nat × Nat} (hb : w.heap[b]? = some (.cells cs T fr)) (v : Value) : (w.setCell ⟨b, i, none⟩ v).heap[b]? = some (.cells (cs.setIfInBounds i v) T fr) := by
  simp [World.setCell, Array.getElem?_modify, hb]
/-- A descriptor in block P: its eight fields. -/
def DB (w : World) (P : Nat) (nm hp un ps cl id dm er : Value) : Prop := w.heap[P]? = some (.cells #[nm, hp, un, ps, cl, id, dm, er] 80 (0, 0))
theorem DB.set2 {w : World} {P : Nat} {nm hp un ps cl id dm er : Value} (h : DB w P nm hp un ps cl id dm er) (v : Value) : DB (w.setCell ⟨P, 2, none⟩ v) P nm hp v ps cl id dm er := hset (i := 2) h v
theorem DB.set3 {w : World} {P : Nat} {nm hp un ps cl id dm er : Value} (h : DB w P nm hp un ps cl id dm er) (v : Value) : DB (w.setCell ⟨P, 3, none⟩ v) P nm hp un v cl id dm er := hset (i := 3) h v
theorem DB.set5 {w : World} {P : Nat} {nm hp un ps cl id dm er : Value} (h : DB w P nm hp un ps cl id dm er) (v : Value) : DB (w.setCell ⟨P, 5, none⟩ v) P nm hp un ps cl v dm er := hset (i := 5) h v
theorem DB.set6 {w : World} {P : Nat} {nm hp un ps cl id dm er : Value} (h : DB w P nm hp un ps cl id dm er) (v : Value) : DB (w.setCell ⟨P, 6, none⟩ v) P nm hp un ps cl id v er := hset (i := 6) h v
theorem DB.set7 {w : World} {P : Nat} {nm hp un ps cl id dm er : Value} (h : DB w P nm hp un ps cl id dm er) (v : Value) : DB (w.setCell ⟨P, 7, none⟩ v) P nm hp un ps cl id dm v := hset (i := 7) h v
theorem DB.chg {S : Nat → Prop} {w x : World} {P : Nat} {nm hp un ps cl id dm er : Value} (h : DB w P nm hp un ps cl id dm er) (hc : Chg S w x) (hs : ¬ S P) : DB x P nm hp un ps cl id dm er := hc.obj h hs

set_option maxRecDepth 100000 in
theorem compileK (vp : Option Addr) (vn vcap : Nat) (w : World) : Calls Tryz.prog 131 #[.slice vp vn vcap] w
    fun e w' => e = .returned (.pointer (some ⟨w.heap.size, 0, none⟩)) ∧ w' = w.alloc (.cells #[.slice vp vn vcap, .map none] 84) := by
  go_enter Tryz.func131, Tryz.ntmps131
  go_wp2_with fail
  go_ret
  exact ⟨rfl, rfl⟩
set_option maxRecDepth 100000 in
theorem withUnitK (P ub : Nat) (unit : ByteArray) (nm hp un ps cl id dm er : Value) (w : World) (hd : DB w P nm hp un ps cl id dm er) (hu : w.cell? ⟨ub, 0, none⟩ = some (.string unit)) : Calls Tryz.prog 66 #[.pointer (some ⟨P, 0, none⟩), .pointer (some ⟨ub, 0, none⟩)] w
    fun e w' => e = .returned (.tuple #[]) ∧ w' = w.setCell ⟨P, 2, none⟩ (.string unit) := by
  have c2 : w.cell? ⟨P, 2, none⟩ = some un := by rw [Lib.cell_of_heap hd]; rfl
  have f2 : w.frozen? ⟨P, 2, none⟩ = false := by simp [World.frozen?, show w.heap[P]? = _ from hd]
  go_enter Tryz.func66, Tryz.ntmps66
  go_wp2_with fail
  go_end0
  exact ⟨rfl, rfl⟩
end Go.Proofs.YtojlpfakdodnfaaGreatDoor
