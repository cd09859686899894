/- What NewDesc makes. -/
import Derived.Test.YtojlpfakdodnfaaGreatDoorNew
import Derived.BigQuiet
import Derived.Deep.DeepCutAuto
set_option linter.unusedVariables false
set_option linter.unusedSimpArgs false
namespace Go.Proofs.YtojlpfakdodnfaaGreatDoor
open Go.RowKit Go.Maps Go.Sort

/-- The data of a descriptor. -/
structure Dsc where
  name : ByteArray
  help : ByteArray
  unit : ByteArray
  vars : List ByteArray
  cons : List Ent
def Dsc.keys (D : Dsc) : List ByteArray := (fit D.cons).map (·.1)
def descOk (D : Dsc) : Bool := okName D.name && (fit D.cons).all (fun p => okLbl p.1) && (fit D.cons).all (fun p => vU p.2) && D.vars.all okLbl && decide ((D.keys ++ D.vars).Nodup)
def sepT (l : List (List UInt8)) : List UInt8 := l.flatMap fun x => x ++ [255]
def idT (D : Dsc) : List UInt8 := sepT (bs D.name :: (fit D.cons).map fun p => bs p.2)
def nameL (D : Dsc) : List (List UInt8) := (D.keys.map bs ++ D.vars.map fun v => 36 :: bs v).mergeSort leB
def dimT (D : Dsc) : List UInt8 := sepT (bs D.help :: bs D.unit :: nameL D)
/-- A pair of pointers to a name and a value. -/
def PairAt (w : World) (p : Value) (x : Ent) : Prop := ∃ b bn bv, p = .pointer (some ⟨b, 0, none⟩) ∧ w.heap[b]? = some (.cells #[.pointer (some ⟨bn, 0, none⟩), .pointer (some ⟨bv, 0, none⟩)] 106 (0, 0)) ∧ w.heap[bn]? = some (.cells #[.string x.1] 9 (0, 0)) ∧ w.heap[bv]? = some (.cells #[.string x.2] 9 (0, 0))
def RdLP (w : World) (v : Value) (xs : List Ent) : Prop :=
  ∃ (p : Option Addr) (cap b off : Nat), v = .slice p xs.length cap ∧ xs.length ≤ cap ∧ cap ≤ maxLen ∧ (xs = [] ∨ p = some ⟨b, off, none⟩) ∧ ∀ i x, xs[i]? = some x → ∃ pv, w.cell? ⟨b, off + i, none⟩ = some pv ∧ PairAt w pv x
/-- A descriptor that is valid; CQ says what is known of its names. -/
def Good (w : World) (P : Nat) (CQ : Nat → Value → Value → Prop) (D : Dsc) : Prop := ∃ Q vv lc psv, CQ Q vv lc ∧ DB w P (.string D.name) (.string D.help) (.string D.unit) psv (.pointer (some ⟨Q, 0, none⟩)) (.string ⟨(idT D).toArray⟩) (.string ⟨(dimT D).toArray⟩) .nilIface ∧ w.heap[Q]? = some (.cells #[vv, lc] 84 (0, 0)) ∧ RdC Value.string w vv D.vars ∧ RdLP w psv (fit D.cons)
/-- A descriptor that is not. -/
def Bad (w : World) (P : Nat) : Prop := ∃ er, w.cell? ⟨P, 7, none⟩ = some er ∧ IsErr er
def SaidD (CQ : Nat → Value → Value → Prop) (D : Dsc) (w w' : World) (e : Ending) : Prop := ∃ P, e = .returned (.pointer (some ⟨P, 0, none⟩)) ∧ w.heap.size ≤ P ∧ Below w.heap.size w w' ∧ (descOk D = true → Good w' P CQ D) ∧ (descOk D = false → Bad w' P)
/-- The separator stands. -/
def Sep (w : World) : Prop := ∃ b off c, w.cell? ⟨2, 0, none⟩ = some (.slice (some ⟨b, off, none⟩) 1 c) ∧ w.cell? ⟨b, off, none⟩ = some (.int .u8 255)
theorem Sep.below {w x : World} (h : Sep w) (hb : Below w.heap.size w x) : Sep x := by
  obtain ⟨b, off, c, h1, h2⟩ := h
  exact ⟨b, off, c, (hb.cell (p := ⟨_, 0, none⟩) (World.block_lt_of_cell? w _ h1)).trans h1, (hb.cell (p := ⟨b, off, none⟩) (World.block_lt_of_cell? w _ h2)).trans h2⟩
theorem DB.c7 {w : World} {P : Nat} {nm hp un ps cl id dm er : Value} (h : DB w P nm hp un ps cl id dm er) : w.cell? ⟨P, 7, none⟩ = some er := by rw [Lib.cell_of_heap h]; rfl
theorem DB.fz {w : World} {P : Nat} {nm hp un ps cl id dm er : Value} (h : DB w P nm hp un ps cl id dm er) (i : Nat) : w.frozen? ⟨P, i, none⟩ = false := Lib.frozen_of_heap h i
/-- What NewDesc answers where it finds a fault. -/
theorem bad_said {CQ : Nat → Value → Value → Prop} {D : Dsc} {w0 w z : World} {P : Nat} {nm hp un ps cl id dm er er' : Value} (hD : DB z P nm hp un ps cl id dm er) (hb : Below w.heap.size w z) (hP : w.heap.size ≤ P) (her : IsErr er') (hok : descOk D = false) (h0 : Below w0.heap.size w0 w) :
    SaidD CQ D w0 (z.setCell ⟨P, 7, none⟩ er') (.returned (.pointer (some ⟨P, 0, none⟩))) :=
  ⟨P, rfl, Nat.le_trans h0.size hP, h0.trans ((hb.setCell (p := ⟨P, 7, none⟩) hP _).mono h0.size), (fun h => by rw [hok] at h; cases h), fun _ => ⟨er', (hD.set7 er').c7, her⟩⟩
end Go.Proofs.YtojlpfakdodnfaaGreatDoor
