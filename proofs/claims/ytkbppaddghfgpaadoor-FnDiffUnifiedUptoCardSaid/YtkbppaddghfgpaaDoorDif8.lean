/- The blocks, recursively: rows of three cells; how many blocks there are. -/
import Derived.Test.YtkbppaddghfgpaaDoorDif6
import Derived.Maps.Range
set_option linter.unusedVariables false
set_option linter.unusedSimpArgs false
namespace Go.Proofs.YtkbppaddghfgpaaDoor
open Go.RowKit Go.Maps

abbrev Tri := Nat × Nat × Nat
/-- A row's cells, three an element. -/
def thr (ts : List Tri) : List Value := ts.flatMap fun t => [.int .i64 (t.1 : Int), .int .i64 (t.2.1 : Int), .int .i64 (t.2.2 : Int)]
theorem thr_len (ts : List Tri) : (thr ts).length = ts.length * 3 := by
  induction ts with
  | nil => rfl
  | cons x r ih => simp [thr] at ih ⊢; omega
theorem thr_snoc (ts : List Tri) (t : Tri) : thr (ts ++ [t]) = thr ts ++ [.int .i64 (t.1 : Int), .int .i64 (t.2.1 : Int), .int .i64 (t.2.2 : Int)] := by simp [thr]
theorem thr_get : ∀ (ts : List Tri) (i : Nat) (t : Tri), ts[i]? = some t → (thr ts)[i * 3]? = some (.int .i64 (t.1 : Int)) ∧ (thr ts)[i * 3 + 1]? = some (.int .i64 (t.2.1 : Int)) ∧ (thr ts)[i * 3 + 2]? = some (.int .i64 (t.2.2 : Int))
  | y :: r, 0, t, h => by simp at h; subst h; exact ⟨rfl, rfl, rfl⟩
  | y :: r, i + 1, t, h => by
    have := thr_get r i t (by simpa using h)
    rw [show (i + 1) * 3 = i * 3 + 3 by omega, show i * 3 + 3 + 1 = (i * 3 + 1) + 3 by omega, show i * 3 + 3 + 2 = (i * 3 + 2) + 3 by omega]
    simpa [thr] using this
/-- A slice of blocks. -/
def RdT (w : World) (v : Value) (ts : List Tri) : Prop :=
  ∃ (a : Option Addr) (cap b off : Nat), v = .slice a ts.length cap ∧ ts.length ≤ cap ∧ cap ≤ maxLen ∧ (ts = [] ∨ a = some ⟨b, off, none⟩) ∧
    ∀ i t, ts[i]? = some t → w.cell? ⟨b, off + i * 3, none⟩ = some (.int .i64 (t.1 : Int)) ∧ w.cell? ⟨b, off + i * 3 + 1, none⟩ = some (.int .i64 (t.2.1 : Int)) ∧ w.cell? ⟨b, off + i * 3 + 2, none⟩ = some (.int .i64 (t.2.2 : Int))
theorem RdT.below {w w' : World} {v : Value} {ts : List Tri} (h : RdT w v ts) (hb : Below w.heap.size w w') : RdT w' v ts := by
  obtain ⟨a, cap, b, off, h1, h2, h3, h4, h5⟩ := h
  refine ⟨a, cap, b, off, h1, h2, h3, h4, fun i t ht => ?_⟩
  obtain ⟨c1, c2, c3⟩ := h5 i t ht
  rw [hb.cell (p := ⟨b, off + i * 3, none⟩) (World.block_lt_of_cell? w _ c1), hb.cell (p := ⟨b, off + i * 3 + 1, none⟩) (World.block_lt_of_cell? w _ c2), hb.cell (p := ⟨b, off + i * 3 + 2, none⟩) (World.block_lt_of_cell? w _ c3)]
  exact ⟨c1, c2, c3⟩
theorem RdT.of_owns {w : World} {base : Nat} {e : TypeId} {v : Value} {n : Nat} {ts : List Tri} (h : w.ownsRow base e 3 v n (thr ts)) : RdT w v ts := by
  obtain ⟨hl, h⟩ := h
  rw [thr_len] at hl
  have hn : ts.length = n := by omega
  rcases h with ⟨rfl, rfl⟩ | ⟨q, cap, cur, rfl, hb, hg, hc, hm, hs, ht⟩
  · obtain rfl := List.eq_nil_of_length_eq_zero hn
    exact ⟨none, 0, 0, 0, rfl, Nat.le_refl _, Nat.zero_le _, .inl rfl, by simp⟩
  · refine ⟨_, cap, q, 0, by rw [hn], by omega, hm, .inr rfl, fun i t hti => ?_⟩
    have hi : i < n := by rw [← hn]; exact (List.getElem?_eq_some_iff.1 hti).1
    obtain ⟨g1, g2, g3⟩ := thr_get ts i t hti
    have each : ∀ j u, j < n * 3 → (thr ts)[j]? = some u → w.cell? ⟨q, 0 + j, none⟩ = some u := by
      intro j u hj hu
      rw [Lib.cell_of_heap hg, Nat.zero_add]
      have h2 : (cur.toList.take (n * 3))[j]? = some u := by rw [ht]; exact hu
      rw [List.getElem?_take_of_lt hj] at h2
      rwa [Array.getElem?_toList] at h2
    exact ⟨each _ _ (by omega) g1, each (i * 3 + 1) _ (by omega) g2, each (i * 3 + 2) _ (by omega) g3⟩
theorem own_below3 {w w' : World} {B e size n : Nat} {v : Value} {xs : List Value} (h : w.ownsRow B e size v n xs) (hb : Below w.heap.size w w') : w'.ownsRow B e size v n xs := by
  refine ⟨h.1, h.2.imp id ?_⟩
  rintro ⟨g, cap, cur, rfl, h1, h2, h3⟩
  refine ⟨g, cap, cur, rfl, h1, ?_, h3⟩
  have hlt : g < w.heap.size := (Array.getElem?_eq_some_iff.1 h2).1
  rw [hb.block g hlt]
  exact h2
theorem own_set3 {w : World} {B e size n : Nat} {v : Value} {xs : List Value} (h : w.ownsRow B e size v n xs) {p : Addr} (hp : p.block < B) (u : Value) : (w.setCell p u).ownsRow B e size v n xs := by
  refine ⟨h.1, h.2.imp id ?_⟩
  rintro ⟨g, cap, cur, rfl, h1, h2, h3⟩
  refine ⟨g, cap, cur, rfl, h1, ?_, h3⟩
  rw [Below.heap_setCell _ _ _ _ (by omega)]
  exact h2
theorem own_shape3 {w : World} {B e size n : Nat} {v : Value} {xs : List Value} (h : w.ownsRow B e size v n xs) : ∃ a l c, v = .slice a l c := by
  rcases h.2 with ⟨rfl, _⟩ | ⟨g, cap, cur, rfl, _⟩
  · exact ⟨_, _, _, rfl⟩
  · exact ⟨_, _, _, rfl⟩
theorem info_match : (Tryd.prog.info? 73).map (fun i => (i.zero, i.size, i.bytes)) = some (some (.agg #[.int .i64 0, .int .i64 0, .int .i64 0]), 3, 24) := by kernel_rfl
theorem cell_three (w : World) (b : Nat) (x y z : Value) (t : TypeId) (h : w.heap[b]? = some (.cells #[x, y, z] t)) : ∀ j u, [x, y, z][j]? = some u → w.cell? ((⟨b, 0, none⟩ : Addr).add j) = some u := by
  intro j u hj
  have e : (⟨b, 0, none⟩ : Addr).add j = ⟨b, j, none⟩ := by
    simp [Addr.add]
    intro h0; exact h0.symm
  rw [e, Lib.cell_of_heap h]
  match j, hj with
  | 0, hj => exact hj
  | 1, hj => exact hj
  | 2, hj => exact hj
/-- Bounds of a longest-match function. -/
def FOk (F : Nat → Nat → Nat → Nat → Tri) (la lb : Nat) : Prop := ∀ alo ahi blo bhi, alo ≤ ahi → ahi ≤ la → blo ≤ bhi → bhi ≤ lb →
  alo ≤ (F alo ahi blo bhi).1 ∧ (F alo ahi blo bhi).1 + (F alo ahi blo bhi).2.2 ≤ ahi ∧ blo ≤ (F alo ahi blo bhi).2.1 ∧ (F alo ahi blo bhi).2.1 + (F alo ahi blo bhi).2.2 ≤ bhi
theorem mb_zero (F : Nat → Nat → Nat → Nat → Tri) (f alo ahi blo bhi : Nat) (h : (F alo ahi blo bhi).2.2 = 0) : mbF F f alo ahi blo bhi = [] := by
  match f with
  | 0 => rfl
  | f + 1 => unfold mbF; simp only; rw [if_pos h]
theorem mb_pos (F : Nat → Nat → Nat → Nat → Tri) (f alo ahi blo bhi : Nat) (h : 0 < (F alo ahi blo bhi).2.2) (hf : 0 < f) : mbF F f alo ahi blo bhi =
    (if alo < (F alo ahi blo bhi).1 ∧ blo < (F alo ahi blo bhi).2.1 then mbF F (f - 1) alo (F alo ahi blo bhi).1 blo (F alo ahi blo bhi).2.1 else []) ++ F alo ahi blo bhi ::
    (if (F alo ahi blo bhi).1 + (F alo ahi blo bhi).2.2 < ahi ∧ (F alo ahi blo bhi).2.1 + (F alo ahi blo bhi).2.2 < bhi then mbF F (f - 1) ((F alo ahi blo bhi).1 + (F alo ahi blo bhi).2.2) ahi ((F alo ahi blo bhi).2.1 + (F alo ahi blo bhi).2.2) bhi else []) := by
  match f with
  | 0 => omega
  | f + 1 =>
    conv => lhs; unfold mbF
    simp only
    rw [if_neg (by omega)]
    rfl
theorem mb_len {F : Nat → Nat → Nat → Nat → Tri} {la lb : Nat} (hF : FOk F la lb) : ∀ f alo ahi blo bhi, alo ≤ ahi → ahi ≤ la → blo ≤ bhi → bhi ≤ lb → (mbF F f alo ahi blo bhi).length ≤ ahi - alo
  | 0, _, _, _, _, _, _, _, _ => by simp [mbF]
  | f + 1, alo, ahi, blo, bhi, h1, h2, h3, h4 => by
    obtain ⟨g1, g2, g3, g4⟩ := hF alo ahi blo bhi h1 h2 h3 h4
    rcases Nat.eq_zero_or_pos (F alo ahi blo bhi).2.2 with h0 | h0
    · rw [mb_zero F _ _ _ _ _ h0]; simp
    · rw [mb_pos F _ _ _ _ _ h0 (by omega), List.length_append, List.length_cons, Nat.add_sub_cancel]
      have i1 : (if alo < (F alo ahi blo bhi).1 ∧ blo < (F alo ahi blo bhi).2.1 then mbF F f alo (F alo ahi blo bhi).1 blo (F alo ahi blo bhi).2.1 else []).length ≤ (F alo ahi blo bhi).1 - alo := by
        split
        · exact mb_len hF f _ _ _ _ (by omega) (by omega) (by omega) (by omega)
        · simp
      have i2 : (if (F alo ahi blo bhi).1 + (F alo ahi blo bhi).2.2 < ahi ∧ (F alo ahi blo bhi).2.1 + (F alo ahi blo bhi).2.2 < bhi then mbF F f ((F alo ahi blo bhi).1 + (F alo ahi blo bhi).2.2) ahi ((F alo ahi blo bhi).2.1 + (F alo ahi blo bhi).2.2) bhi else []).length ≤ ahi - ((F alo ahi blo bhi).1 + (F alo ahi blo bhi).2.2) := by
        split
        · exact mb_len hF f _ _ _ _ (by omega) (by omega) (by omega) (by omega)
        · simp
      omega
theorem flm_ok {a b : List ByteArray} {L : ByteArray → List Nat} (hL : ∀ v j, j ∈ L v → b[j]? = some v) : FOk (flm a b L) a.length b.length := fun alo ahi blo bhi h1 h2 h3 h4 => by
  have h := flm_blk (a := a) hL h1 h3
  exact ⟨h.1, h.2.1, h.2.2.1, h.2.2.2.1⟩

/-- From (w, the row mv) to (w', the row mv'): nothing but that row's block has changed; the new row is the old one or lies in new memory. -/
def Grew (w : World) (mv : Value) (w' : World) (mv' : Value) : Prop := w.grownBy w' mv.ownBlock ∧ ∀ j, mv'.ownBlock = some j → w.heap.size ≤ j ∨ mv.ownBlock = some j
theorem Grew.trans {w w' w'' : World} {mv mv' mv'' : Value} (h : Grew w mv w' mv') (h' : Grew w' mv' w'' mv'') : Grew w mv w'' mv'' := by
  refine ⟨h.1.andThen h'.1 h.2, fun j hj => ?_⟩
  rcases h'.2 j hj with h1 | h1
  · exact .inl (Nat.le_trans h.1.size h1)
  · exact h.2 j h1
theorem Grew.ext {w w' : World} {mv : Value} (hb : Below w.heap.size w w') : Grew w mv w' mv := ⟨⟨hb.os, hb.tape, hb.output, hb.size, fun i hi _ => hb.block i hi⟩, fun j hj => .inr hj⟩
theorem Grew.below {w1 w w' : World} {B : Nat} {mv mv' : Value} (h : Grew w mv w' mv') (hb : Below B w1 w) (hB : B ≤ w.heap.size) (hr : ∀ j, mv.ownBlock = some j → B ≤ j) : Below B w1 w' := hb.grown h.1 hB hr
theorem Grew.block {w w' : World} {mv mv' : Value} (h : Grew w mv w' mv') {i : Nat} (hi : i < w.heap.size) (hne : mv.ownBlock ≠ some i) : w'.heap[i]? = w.heap[i]? := h.1.block i hi (fun e => hne e.symm)
end Go.Proofs.YtkbppaddghfgpaaDoor
