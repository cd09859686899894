/- The labels that came in: a map, or none; a range over them. -/
import Derived.Test.YtojlpfakdodnfaaGreatDoorRng
import Derived.Sort.OwnSorted
set_option linter.unusedVariables false
set_option linter.unusedSimpArgs false
namespace Go.Proofs.YtojlpfakdodnfaaGreatDoor
open Go.RowKit Go.Maps Go.Sort

/-- The map that stands at mp reads as the pairs l make it; none: without any. -/
def MapIs (w : World) (mp : Option Nat) (l : List Ent) : Prop := (mp = none ∧ l = []) ∨ ∃ b, mp = some b ∧ w.ownsMap Tryz.prog 9 strE b l.length (mD l)
theorem MapIs.chg {S : Nat → Prop} {w x : World} {mp : Option Nat} {l : List Ent} (h : MapIs w mp l) (hc : Chg S w x) (hS : ∀ b, mp = some b → ¬ S b) : MapIs x mp l := by
  rcases h with h | ⟨b, h1, h2⟩
  · exact .inl h
  · exact .inr ⟨b, h1, hc.map h2 (hS b h1)⟩
theorem MapIs.below {w x : World} {mp : Option Nat} {l : List Ent} (h : MapIs w mp l) (hb : Below w.heap.size w x) : MapIs x mp l := h.chg (Chg.of_below hb Non) (fun _ _ h => h)
theorem MapIs.lt {w : World} {mp : Option Nat} {l : List Ent} (h : MapIs w mp l) : ∀ b, mp = some b → b < w.heap.size := by
  intro b hb
  rcases h with ⟨h, _⟩ | ⟨c, h1, h2⟩
  · rw [h] at hb; cases hb
  · rw [h1] at hb; cases hb; exact h2.lt
theorem MapIs.size_le {w : World} {mp : Option Nat} {l : List Ent} (h : MapIs w mp l) : Maps.size (mD l) ≤ l.length := by
  rcases h with ⟨_, rfl⟩ | ⟨b, _, h⟩
  · exact Nat.le_refl _
  · exact h.size_le
theorem MapIs.len {w : World} {mp : Option Nat} {l : List Ent} (h : MapIs w mp l) : Sem.run Tryz.prog (Builtin.len_ #[72] 3 #[.map mp]) w = .ok (.int .i64 (Maps.size (mD l))) w := by
  rcases h with ⟨rfl, rfl⟩ | ⟨b, rfl, h⟩
  · show Sem.run Tryz.prog (Builtin.len_ #[72] 3 #[.map none]) w = .ok (.int .i64 0) w
    kernel_rfl
  · exact h.len Tryz.underlying72 _
theorem MapIs.of {w : World} {B : Nat} {mv : Value} {l : List Ent} (h : MapOf w B mv l) : ∃ mp, mv = .map mp ∧ MapIs w mp l := by
  rcases h with ⟨h1, h2⟩ | ⟨b, h1, _, _, h2⟩
  · exact ⟨none, h2, .inl ⟨rfl, h1⟩⟩
  · exact ⟨some b, h1, .inr ⟨b, rfl, h2⟩⟩
theorem MapIs.look {w : World} {mp : Option Nat} {l : List Ent} (h : MapIs w mp l) {x t : ByteArray} (hx : x.size ≤ maxLen) (hl : look x (fit l) = some t) :
    Sem.run Tryz.prog (Instr.lookup 72 (.map mp) (.string x) false) w = .ok (.string t) w := by
  rcases h with ⟨rfl, rfl⟩ | ⟨b, rfl, h⟩
  · cases hl
  · exact lookK h hx hl
/-- The range under way. -/
def Rng (w : World) (mp : Option Nat) (r : Nat) (l : List Ent) (left : Lit → Bool) (cnt : Nat) : Prop :=
  (mp = none ∧ l = [] ∧ (∀ kl, left kl = false) ∧ cnt = 0 ∧ w.heap[r]? = some (.mapIter none 0 #[] 0)) ∨ ∃ b, mp = some b ∧ w.ranges Tryz.prog 9 strE b r l.length (mD l) left cnt
def rleft (w : World) (mp : Option Nat) (r : Nat) : Nat := mp.elim 0 fun b => w.rangeLeft b r
theorem Rng.left_eq {w : World} {mp : Option Nat} {r : Nat} {l : List Ent} {left : Lit → Bool} {cnt : Nat} (h : Rng w mp r l left cnt) : rleft w mp r = cnt := by
  rcases h with ⟨rfl, _, _, rfl, _⟩ | ⟨b, rfl, h⟩
  · rfl
  · exact h.left_eq
theorem Rng.lt {w : World} {mp : Option Nat} {r : Nat} {l : List Ent} {left : Lit → Bool} {cnt : Nat} (h : Rng w mp r l left cnt) : r < w.heap.size := by
  rcases h with ⟨_, _, _, _, h⟩ | ⟨b, rfl, h⟩
  · exact (Array.getElem?_eq_some_iff.1 h).1
  · exact h.lt
theorem Rng.kept {w x : World} {mp : Option Nat} {r : Nat} {l : List Ent} {left : Lit → Bool} {cnt : Nat} {row : Option Nat} (h : Rng w mp r l left cnt) (hg : w.grownBy x row) (hb : ∀ b, mp = some b → some b ≠ row) (hr : some r ≠ row) : Rng x mp r l left cnt := by
  rcases h with ⟨h1, h2, h3, h4, h5⟩ | ⟨b, h1, h⟩
  · exact .inl ⟨h1, h2, h3, h4, (hg.block r (Array.getElem?_eq_some_iff.1 h5).1 hr).trans h5⟩
  · exact .inr ⟨b, h1, h.kept hg (hb b h1) hr⟩
theorem Rng.no_cells {w : World} {mp : Option Nat} {r : Nat} {l : List Ent} {left : Lit → Bool} {cnt : Nat} (h : Rng w mp r l left cnt) (cs : Array Value) (T : TypeId) (fr : Nat × Nat) : w.heap[r]? ≠ some (.cells cs T fr) := by
  intro e
  rcases h with ⟨_, _, _, _, hit⟩ | ⟨b, _, _, _, _, _, _, _, _, _, _, hit, _⟩
  · rw [hit] at e; cases e
  · rw [hit] at e; cases e
theorem row_ne_rng {w : World} {mp : Option Nat} {r : Nat} {l : List Ent} {left : Lit → Bool} {cnt base size m : Nat} {e : TypeId} {v : Value} {xs : List Value} (h : w.ownsRow base e size v m xs) (hr : Rng w mp r l left cnt) : some r ≠ v.ownBlock := by
  rcases hr with ⟨_, _, _, _, hit⟩ | ⟨b, _, hr⟩
  · rcases h.2 with ⟨rfl, _⟩ | ⟨g, cap, cur, rfl, _, hb, _⟩
    · simp [Value.ownBlock]
    · intro e1
      have : r = g := by simpa [Value.ownBlock] using e1
      subst this
      rw [hit] at hb
      cases hb
  · exact row_ne_iter h hr
theorem map_ne_rng {w : World} {mp : Option Nat} {r : Nat} {l : List Ent} {left : Lit → Bool} {cnt : Nat} {k : TypeId} {R : Value → Option (DataW Unit × List MemPlace)} {M n : Nat} {D : DataW Unit} (h : w.ownsMap Tryz.prog k R M n D) (hr : Rng w mp r l left cnt) : M ≠ r := by
  intro e
  subst e
  obtain ⟨es, clock, hb, _⟩ := h
  rcases hr with ⟨_, _, _, _, hit⟩ | ⟨b, _, _, _, _, _, _, _, _, _, _, hit, _⟩
  · rw [hit] at hb; cases hb
  · rw [hit] at hb; cases hb

set_option maxRecDepth 100000 in
theorem range_lab {w : World} {ops : Array Oper} {rest : List Oper} {o : Oper} {a : Act} {Q : Exit → Act → World → Prop} (l : List Ent) (mp : Option Nat) (hg : o.guard = none) (m : Operand)
    (hop : o.op = Op.range 72 m) (hm : a.eval m = .map mp) (hown : MapIs w mp l)
    (hK : ∀ w', Rng w' mp w.heap.size l (Maps.has (mD l)) (Maps.size (mD l)) → w.grownBy w' none → w'.heap.size = w.heap.size + 1 → wpList Tryz.prog ops Q rest (a.put o.dst (.pointer (some ⟨w.heap.size, 0, none⟩))) w') :
    wpList Tryz.prog ops Q (o :: rest) a w := by
  rcases hown with ⟨rfl, rfl⟩ | ⟨b, rfl, hown⟩
  · refine wpList_plain hg fun K' hK' => ?_
    have hrun := run_range_nilMap (P := Tryz.prog) w 72 _ _ Tryz.underlying72
    unfold Oper.wp
    simp [execOp, hop, hm, hrun, Result.andThen]
    exact hK' _ _ (hK _ (.inl ⟨rfl, rfl, fun _ => rfl, rfl, heap_alloc_new _ _⟩) (World.grownBy_alloc w _ none) (by simp))
  · exact wpList_range_own w hg m 72 hop 9 9 lawS Tryz.underlying72 strE b l.length (mD l) hm hown fun w' h1 h2 h3 => hK w' (.inr ⟨b, rfl, h1⟩) h2 h3
/-- A label has come up. -/
structure NextR (l : List Ent) (w w' : World) (mp : Option Nat) (r : Nat) (left : Lit → Bool) (cnt : Nat) (x t : ByteArray) : Prop where
  key : keyOf Tryz.prog 9 (.string x) = some (keyL x)
  sizeK : x.size ≤ maxLen
  here : left (keyL x) = true
  val : look x (fit l) = some t
  rng : ∃ cnt', Rng w' mp r l (fun z => left z && !z.sameKey (keyL x)) cnt' ∧ cnt' < cnt
  grown : w.grownBy w' (some r)
  entry : (Instr.entry (.pointer (some ⟨r, 0, none⟩))).run Tryz.prog w' = .ok (.tuple #[.string x, .string t]) w'
  at' : ∀ zd, (mD l).atKey (keyL x) zd = litS t
set_option maxRecDepth 100000 in
theorem next_rng {ops : Array Oper} {rest : List Oper} {o : Oper} {a : Act} {Q : Exit → Act → World → Prop} (l : List Ent) (w : World) (mp : Option Nat) (r cnt : Nat) (left : Lit → Bool)
    (hg : o.guard = none) (it : Operand) (hop : o.op = Op.next it false) (hit : a.eval it = .pointer (some ⟨r, 0, none⟩)) (h : Rng w mp r l left cnt)
    (hDone : (∀ kl, left kl = false) → wpList Tryz.prog ops Q rest (a.put o.dst (.tuple #[.bool false])) w)
    (hMore : ∀ (x t : ByteArray) (w' : World), NextR l w w' mp r left cnt x t → wpList Tryz.prog ops Q rest (a.put o.dst (.tuple #[.bool true, .string x, .string t])) w') :
    wpList Tryz.prog ops Q (o :: rest) a w := by
  rcases h with ⟨rfl, rfl, h3, rfl, h5⟩ | ⟨b, rfl, h⟩
  · refine wpList_plain hg fun K' hK' => ?_
    have hrun : (Instr.next (.pointer (some ⟨r, 0, none⟩)) false o.type).run Tryz.prog w = .ok (.tuple #[.bool false]) w := by
      simp only [Instr.next, getObj, Sem.run_bind, Sem.run, h5, Result.andThen]
      rfl
    unfold Oper.wp
    simp [execOp, hop, hit, hrun, Result.andThen]
    exact hK' _ _ (hDone h3)
  · exact next_lab l w b r l.length cnt left hg it hop hit h hDone fun x t w' hN => hMore x t w' ⟨hN.key, hN.sizeK, hN.here, hN.val, by obtain ⟨c, h1, h2⟩ := hN.rng; exact ⟨c, .inr ⟨b, rfl, h1⟩, h2⟩, hN.grown, hN.entry, hN.at'⟩
end Go.Proofs.YtojlpfakdodnfaaGreatDoor
