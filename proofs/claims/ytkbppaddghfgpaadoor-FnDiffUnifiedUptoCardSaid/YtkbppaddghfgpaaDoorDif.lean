/- Matching blocks, in plain Lean: what the program's matcher computes. -/
import Derived.Test.YtkbppaddghfgpaaDoorSl
set_option linter.unusedVariables false
namespace Go.Proofs.YtkbppaddghfgpaaDoor

section
variable {α : Type} [DecidableEq α]
/-- The places of s in b. -/
def idxL (b : List α) (s : α) : List Nat := (List.range b.length).filter fun j => b[j]? = some s
/-- The best block so far (i, j, n); m (t + 1) is the length of the match that ends at the place t of b. -/
structure FS where
  i : Nat
  j : Nat
  n : Nat
  m : Nat → Nat
def upd (m : Nat → Nat) (t k : Nat) : Nat → Nat := fun x => if x = t then k else m x
def inStep (x blo : Nat) (old : Nat → Nat) (s : FS) (j : Nat) : FS :=
  if j < blo then s
  else if s.n < old j + 1 then ⟨x - old j, j - old j, old j + 1, upd s.m (j + 1) (old j + 1)⟩ else ⟨s.i, s.j, s.n, upd s.m (j + 1) (old j + 1)⟩
def inFold (x blo : Nat) (old : Nat → Nat) (js : List Nat) (s : FS) : FS := js.foldl (inStep x blo old) s
def inRun (x blo bhi : Nat) (old : Nat → Nat) (js : List Nat) (s : FS) : FS := inFold x blo old (js.takeWhile fun j => decide (j < bhi)) s
def rowOf (a : List α) (L : α → List Nat) (x : Nat) : List Nat := match a[x]? with | some v => L v | none => []
def outStep (a : List α) (L : α → List Nat) (blo bhi : Nat) (s : FS) (x : Nat) : FS := inRun x blo bhi s.m (rowOf a L x) ⟨s.i, s.j, s.n, fun _ => 0⟩
def outRun (a : List α) (L : α → List Nat) (alo blo bhi : Nat) : Nat → FS
  | 0 => ⟨alo, blo, 0, fun _ => 0⟩
  | k + 1 => outStep a L blo bhi (outRun a L alo blo bhi k) (alo + k)
/-- The two loops that lengthen a block. -/
def backF (a b : List α) (alo blo : Nat) : Nat → Nat → Nat → Nat → Nat × Nat × Nat
  | 0, i, j, n => (i, j, n)
  | f + 1, i, j, n => if alo < i ∧ blo < j ∧ a[i - 1]? = b[j - 1]? then backF a b alo blo f (i - 1) (j - 1) (n + 1) else (i, j, n)
def foreF (a b : List α) (ahi bhi i j : Nat) : Nat → Nat → Nat
  | 0, n => n
  | f + 1, n => if i + n < ahi ∧ j + n < bhi ∧ a[i + n]? = b[j + n]? then foreF a b ahi bhi i j f (n + 1) else n
def flm (a b : List α) (L : α → List Nat) (alo ahi blo bhi : Nat) : Nat × Nat × Nat :=
  let s := outRun a L alo blo bhi (ahi - alo)
  let t := backF a b alo blo s.i s.i s.j s.n
  (t.1, t.2.1, foreF a b ahi bhi t.1 t.2.1 ahi t.2.2)
/-- The blocks, recursively; joined where adjacent; the edits between them. -/
def mbF (F : Nat → Nat → Nat → Nat → Nat × Nat × Nat) : Nat → Nat → Nat → Nat → Nat → List (Nat × Nat × Nat)
  | 0, _, _, _, _ => []
  | f + 1, alo, ahi, blo, bhi =>
    let t := F alo ahi blo bhi
    if t.2.2 = 0 then []
    else (if alo < t.1 ∧ blo < t.2.1 then mbF F f alo t.1 blo t.2.1 else []) ++ t :: (if t.1 + t.2.2 < ahi ∧ t.2.1 + t.2.2 < bhi then mbF F f (t.1 + t.2.2) ahi (t.2.1 + t.2.2) bhi else [])
def joinStep (s : List (Nat × Nat × Nat) × Nat × Nat × Nat) (t : Nat × Nat × Nat) : List (Nat × Nat × Nat) × Nat × Nat × Nat :=
  if s.2.1 + s.2.2.2 = t.1 ∧ s.2.2.1 + s.2.2.2 = t.2.1 then (s.1, s.2.1, s.2.2.1, s.2.2.2 + t.2.2)
  else (if 0 < s.2.2.2 then s.1 ++ [s.2] else s.1, t)
def joinEnd (s : List (Nat × Nat × Nat) × Nat × Nat × Nat) (la lb : Nat) : List (Nat × Nat × Nat) := (if 0 < s.2.2.2 then s.1 ++ [s.2] else s.1) ++ [(la, lb, 0)]
def joined (l : List (Nat × Nat × Nat)) (la lb : Nat) : List (Nat × Nat × Nat) := joinEnd (l.foldl joinStep ([], 0, 0, 0)) la lb
def gmb (a b : List α) (L : α → List Nat) : List (Nat × Nat × Nat) := joined (mbF (flm a b L) a.length 0 a.length 0 b.length) a.length b.length
/-- An edit: tag, i1, i2, j1, j2. -/
structure Ed where
  tag : Nat
  i1 : Nat
  i2 : Nat
  j1 : Nat
  j2 : Nat
def tagOf (i ai j bj : Nat) : Nat := if i < ai ∧ j < bj then 114 else if i < ai then 100 else if j < bj then 105 else 0
def opStep (s : List Ed × Nat × Nat) (t : Nat × Nat × Nat) : List Ed × Nat × Nat :=
  let l := if 0 < tagOf s.2.1 t.1 s.2.2 t.2.1 then s.1 ++ [⟨tagOf s.2.1 t.1 s.2.2 t.2.1, s.2.1, t.1, s.2.2, t.2.1⟩] else s.1
  (if 0 < t.2.2 then l ++ [⟨101, t.1, t.1 + t.2.2, t.2.1, t.2.1 + t.2.2⟩] else l, t.1 + t.2.2, t.2.1 + t.2.2)
def edits (l : List (Nat × Nat × Nat)) : List Ed := (l.foldl opStep ([], 0, 0)).1
end
end Go.Proofs.YtkbppaddghfgpaaDoor
