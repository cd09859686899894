/- The matcher's block; what its map answers. -/
import Derived.Test.YtkbppaddghfgpaaDoorDif2
import Derived.Maps.RangeWalk
import Derived.WalkKit
import Derived.Lib.BufferMore
set_option linter.unusedVariables false
set_option linter.unusedSimpArgs false
namespace Go.Proofs.YtkbppaddghfgpaaDoor
open Go.RowKit Go.Maps
open Go.ChangeShapes (lits)

theorem lawS : Keyed Tryd.prog 9 := string_keyed Tryd.underlying9
theorem info_i64 : (Tryd.prog.info? 3).map (fun i => (i.zero, i.size, i.bytes)) = some (some (.int .i64 0), 1, 8) := by kernel_rfl
theorem zeroInts (w : World) : (zeroValue 84).run Tryd.prog w = .ok (.slice none 0 0) w := by kernel_rfl
theorem ixD_step {H : Type} {w : World} {base : Nat} {e : TypeId} {v : Value} {zs : List Int} (l : List Nat) (k : Nat) (ho : w.ownsInts base e .i64 v zs)
    (hat : (ixD (H := H) l) = rowDatum .i64 v zs) : ixD (H := H) (l ++ [k]) = .slice (lits .i64 (zs ++ [(k : Int)])) [] := by
  unfold ixD at hat ⊢
  rw [if_neg (by simp)]
  rcases ho.datum (H := H) with ⟨h1, rfl⟩ | h1 <;> rw [h1] at hat
  · split at hat
    · rename_i h; rw [h]; rfl
    · cases hat
  · split at hat
    · cases hat
    · injection hat with h2 _
      simp only [lits, List.map_append, ← h2, List.map_map] at h2 ⊢
      rw [h2]; rfl

/-- The matcher's block. -/
def Mat (w : World) (M : Nat) (av bv b2j junk blocks pop ops : Value) : Prop :=
  w.heap[M]? = some (.cells #[av, bv, b2j, .nilFunc, .bool true, junk, blocks, .map none, pop, ops] 69)
theorem gD_step {H : Type} {w : World} {base : Nat} {e : TypeId} {v : Value} {zs : List Int} (b : List ByteArray) (k : Nat) (hk : k < b.length) (ho : w.ownsInts base e .i64 v zs)
    (hat : (gD (H := H) b k).atKey (keyL b[k]) .nil = rowDatum .i64 v zs) : gD (H := H) b (k + 1) = (gD b k).put (keyL b[k]) (.slice (lits .i64 (zs ++ [(k : Int)])) []) := by
  rw [gD_at b b[k] k (by omega)] at hat
  rw [gD, List.getElem?_eq_getElem hk]
  simp only
  rw [List.take_succ_eq_append_getElem hk, idx_snoc, if_pos rfl, List.length_take, Nat.min_eq_left (by omega), ixD_step _ k ho hat]
theorem nil_junk (w : World) : (binOp BinOp.neq 24 .nilFunc .nilFunc).run Tryd.prog w = .ok (.bool false) w := by kernel_rfl
theorem Mat.set5 {w : World} {M : Nat} {av bv b2j junk blocks pop ops : Value} (h : Mat w M av bv b2j junk blocks pop ops) (v : Value) : Mat (w.setCell ⟨M, 5, none⟩ v) M av bv b2j v blocks pop ops := Lib.heap_setCell_same (i := 5) h v
theorem Mat.set8 {w : World} {M : Nat} {av bv b2j junk blocks pop ops : Value} (h : Mat w M av bv b2j junk blocks pop ops) (v : Value) : Mat (w.setCell ⟨M, 8, none⟩ v) M av bv b2j junk blocks v ops := Lib.heap_setCell_same (i := 8) h v
theorem Mat.set2 {w : World} {M : Nat} {av bv b2j junk blocks pop ops : Value} (h : Mat w M av bv b2j junk blocks pop ops) (v : Value) : Mat (w.setCell ⟨M, 2, none⟩ v) M av bv v junk blocks pop ops := Lib.heap_setCell_same (i := 2) h v
theorem Mat.set6 {w : World} {M : Nat} {av bv b2j junk blocks pop ops : Value} (h : Mat w M av bv b2j junk blocks pop ops) (v : Value) : Mat (w.setCell ⟨M, 6, none⟩ v) M av bv b2j junk v pop ops := Lib.heap_setCell_same (i := 6) h v
theorem Mat.set9 {w : World} {M : Nat} {av bv b2j junk blocks pop ops : Value} (h : Mat w M av bv b2j junk blocks pop ops) (v : Value) : Mat (w.setCell ⟨M, 9, none⟩ v) M av bv b2j junk blocks pop v := Lib.heap_setCell_same (i := 9) h v
theorem Mat.set0 {w : World} {M : Nat} {av bv b2j junk blocks pop ops : Value} (h : Mat w M av bv b2j junk blocks pop ops) (v : Value) : Mat (w.setCell ⟨M, 0, none⟩ v) M v bv b2j junk blocks pop ops := Lib.heap_setCell_same (i := 0) h v
theorem Mat.set1 {w : World} {M : Nat} {av bv b2j junk blocks pop ops : Value} (h : Mat w M av bv b2j junk blocks pop ops) (v : Value) : Mat (w.setCell ⟨M, 1, none⟩ v) M av v b2j junk blocks pop ops := Lib.heap_setCell_same (i := 1) h v
theorem Mat.set7 {w : World} {M : Nat} {av bv b2j junk blocks pop ops : Value} (h : Mat w M av bv b2j junk blocks pop ops) : Mat (w.setCell ⟨M, 7, none⟩ (.map none)) M av bv b2j junk blocks pop ops := Lib.heap_setCell_same (i := 7) h _
theorem Mat.lt {w : World} {M : Nat} {av bv b2j junk blocks pop ops : Value} (h : Mat w M av bv b2j junk blocks pop ops) : M < w.heap.size := (Array.getElem?_eq_some_iff.1 h).1
theorem Mat.below {w w' : World} {M : Nat} {av bv b2j junk blocks pop ops : Value} (h : Mat w M av bv b2j junk blocks pop ops) {B : Nat} (hb : Below B w w') (hB : M < B) : Mat w' M av bv b2j junk blocks pop ops := (hb.block M hB).trans h
/-- The map answers to every text with a list of places. -/
def Looks (w : World) (jv : Value) (L : ByteArray → List Nat) : Prop :=
  ∀ s : ByteArray, s.size ≤ maxLen → ∃ v, RdC (fun n : Nat => Value.int .i64 (n : Int)) w v (L s) ∧ ∀ w', Below w.heap.size w w' → (Instr.lookup 64 jv (.string s) false).run Tryd.prog w' = .ok v w'
theorem Looks.below {w w' : World} {jv : Value} {L : ByteArray → List Nat} (h : Looks w jv L) (hb : Below w.heap.size w w') : Looks w' jv L := fun s hs => by
  obtain ⟨v, h1, h2⟩ := h s hs
  exact ⟨v, h1.below hb, fun w2 h3 => h2 w2 (hb.trans (h3.mono hb.size))⟩
theorem ints_kept {w3 w' : World} {base : Nat} {e : TypeId} {v : Value} {zs : List Int} (h : w3.ownsInts base e .i64 v zs) (hk : ∀ i, base ≤ i → i < w3.heap.size → w'.heap[i]? = w3.heap[i]?) (hs : w3.heap.size ≤ w'.heap.size) : w'.ownsInts base e .i64 v zs := by
  obtain ⟨⟨hl, h⟩, hw⟩ := h
  refine ⟨⟨hl, ?_⟩, hw⟩
  rcases h with h | ⟨g, cap, cur, rfl, hb, hg, hr⟩
  · exact .inl h
  · exact .inr ⟨g, cap, cur, rfl, hb, (hk g hb (Array.getElem?_eq_some_iff.1 hg).1).trans hg, hr⟩
theorem ix_of_row {w3 : World} {base : Nat} {e : TypeId} {v : Value} {zs : List Int} (l : List Nat) (ho : w3.ownsInts base e .i64 v zs) (h : rowDatum (H := Unit) .i64 v zs = ixD l) : zs = l.map fun (n : Nat) => (n : Int) := by
  unfold ixD at h
  rcases ho.datum (H := Unit) with ⟨h1, rfl⟩ | h1 <;> rw [h1] at h
  · split at h
    · rename_i h0; rw [h0]; rfl
    · cases h
  · split at h
    · cases h
    · injection h with h2 _
      have h3 := congrArg List.length h2
      simp only [lits, List.length_map] at h3
      apply List.ext_getElem
      · simpa using h3
      · intro i hi hi'
        have h4 : (lits (H := Unit) .i64 zs)[i]? = (lits .i64 (l.map fun (n : Nat) => (n : Int)))[i]? := by rw [h2]
        simp only [lits, List.getElem?_map, List.getElem?_eq_getElem hi] at h4
        have hi2 : i < l.length := by simpa using hi'
        rw [List.getElem?_eq_getElem hi2] at h4
        simp at h4
        simpa using h4
theorem looks_of {w3 w' : World} {N n base : Nat} {D : DataW Unit} {L : ByteArray → List Nat} (h : w'.ownsMap Tryd.prog 9 (rowElem w3 base 3 .i64) N n D)
    (hk : ∀ i, base ≤ i → i < w3.heap.size → w'.heap[i]? = w3.heap[i]?) (hs : w3.heap.size ≤ w'.heap.size) (hD : ∀ s, D.atKey (keyL s) .nil = ixD (L s)) : Looks w' (.map (some N)) L := by
  intro s hsz
  have hN := h.lt
  obtain ⟨es, clock, g1, F, g3, rfl⟩ := h
  have hkey := WideMaps.keyOf_string_mk Tryd.underlying9 hsz
  have hz : rowElem (H := Unit) w3 base 3 .i64 (.slice none 0 0) = some (.nil, []) := rowElem_mk (World.ownsInts_nil w3 base 3 .i64)
  have hrow : ∀ (v : Value) (d : DataW Unit) (ps : List MemPlace), rowElem (H := Unit) w3 base 3 .i64 v = some (d, ps) → d = ixD (L s) → RdC (fun n : Nat => Value.int .i64 (n : Int)) w' v (L s) := by
    intro v d ps hv hd
    obtain ⟨zs, ho, he⟩ := rowElem_inv hv
    have h1 := congrArg Prod.fst he
    simp only at h1
    have h5 := ix_of_row (L s) ho (h1.symm.trans hd)
    refine RdC.of_owns (base := base) (e := 3) (n := zs.length) ?_
    have h6 := (ints_kept ho (w' := w') hk hs).1
    rw [h5, List.map_map] at h6
    rw [h5]
    exact h6
  rcases Maps.fit_look false lawS Tryd.underlying64 (zeroInts w') g1 F hkey with ⟨_, hno, hat⟩ | ⟨e0, y, hm0, he0, _, hR, hat, _⟩
  · refine ⟨.slice none 0 0, hrow _ _ _ hz ((hat .nil).symm.trans (hD s)), fun w2 hb => ?_⟩
    rcases Maps.fit_look false lawS Tryd.underlying64 (zeroInts w2) ((hb.block N hN).trans g1) F hkey with ⟨hrun, _⟩ | ⟨e1, _, hm1, he1, _⟩
    · exact hrun
    · exact absurd he1 (hno e1 hm1)
  · refine ⟨e0.val, hrow _ y.1 y.2 hR ((hat .nil).symm.trans (hD s)), fun w2 hb => ?_⟩
    rcases Maps.fit_look false lawS Tryd.underlying64 (zeroInts w2) ((hb.block N hN).trans g1) F hkey with ⟨_, hno, _⟩ | ⟨e1, _, hm1, he1, hrun, _⟩
    · exact absurd he0 (hno e0 hm0)
    · rw [entry_eq_of_key ((MapKept.stamped_iff es clock).1 F.stamped).2.2 hm0 hm1 (he0.trans he1.symm)]
      exact hrun
end Go.Proofs.YtkbppaddghfgpaaDoor
