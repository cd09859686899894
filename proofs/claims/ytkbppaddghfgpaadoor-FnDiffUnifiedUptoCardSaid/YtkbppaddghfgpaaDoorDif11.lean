/- GetOpCodes, and the package's edits. -/
import Derived.Test.YtkbppaddghfgpaaDoorDif10
set_option linter.unusedVariables false
set_option linter.unusedSimpArgs false
namespace Go.Proofs.YtkbppaddghfgpaaDoor
open Go.RowKit Go.Maps

/-- A row's cells, five an element. -/
def fiv (ts : List Ed) : List Value := ts.flatMap fun t => [.int .u8 (t.tag : Int), .int .i64 (t.i1 : Int), .int .i64 (t.i2 : Int), .int .i64 (t.j1 : Int), .int .i64 (t.j2 : Int)]
theorem fiv_len (ts : List Ed) : (fiv ts).length = ts.length * 5 := by
  induction ts with
  | nil => rfl
  | cons x r ih => simp [fiv] at ih ⊢; omega
theorem fiv_snoc (ts : List Ed) (t : Ed) : fiv (ts ++ [t]) = fiv ts ++ [.int .u8 (t.tag : Int), .int .i64 (t.i1 : Int), .int .i64 (t.i2 : Int), .int .i64 (t.j1 : Int), .int .i64 (t.j2 : Int)] := by simp [fiv]
theorem fiv_get : ∀ (ts : List Ed) (i : Nat) (t : Ed), ts[i]? = some t → (fiv ts)[i * 5]? = some (.int .u8 (t.tag : Int)) ∧ (fiv ts)[i * 5 + 1]? = some (.int .i64 (t.i1 : Int)) ∧ (fiv ts)[i * 5 + 2]? = some (.int .i64 (t.i2 : Int)) ∧ (fiv ts)[i * 5 + 3]? = some (.int .i64 (t.j1 : Int)) ∧ (fiv ts)[i * 5 + 4]? = some (.int .i64 (t.j2 : Int))
  | y :: r, 0, t, h => by simp at h; subst h; exact ⟨rfl, rfl, rfl, rfl, rfl⟩
  | y :: r, i + 1, t, h => by
    have := fiv_get r i t (by simpa using h)
    rw [show (i + 1) * 5 = i * 5 + 5 by omega, show i * 5 + 5 + 1 = (i * 5 + 1) + 5 by omega, show i * 5 + 5 + 2 = (i * 5 + 2) + 5 by omega, show i * 5 + 5 + 3 = (i * 5 + 3) + 5 by omega, show i * 5 + 5 + 4 = (i * 5 + 4) + 5 by omega]
    simpa [fiv] using this
/-- A slice of edits. -/
def RdF (w : World) (v : Value) (ts : List Ed) : Prop :=
  ∃ (a : Option Addr) (cap b off : Nat), v = .slice a ts.length cap ∧ ts.length ≤ cap ∧ cap ≤ maxLen ∧ (ts = [] ∨ a = some ⟨b, off, none⟩) ∧
    ∀ i t, ts[i]? = some t → w.cell? ⟨b, off + i * 5, none⟩ = some (.int .u8 (t.tag : Int)) ∧ w.cell? ⟨b, off + i * 5 + 1, none⟩ = some (.int .i64 (t.i1 : Int)) ∧ w.cell? ⟨b, off + i * 5 + 2, none⟩ = some (.int .i64 (t.i2 : Int)) ∧ w.cell? ⟨b, off + i * 5 + 3, none⟩ = some (.int .i64 (t.j1 : Int)) ∧ w.cell? ⟨b, off + i * 5 + 4, none⟩ = some (.int .i64 (t.j2 : Int))
theorem RdF.below {w w' : World} {v : Value} {ts : List Ed} (h : RdF w v ts) (hb : Below w.heap.size w w') : RdF w' v ts := by
  obtain ⟨a, cap, b, off, h1, h2, h3, h4, h5⟩ := h
  refine ⟨a, cap, b, off, h1, h2, h3, h4, fun i t ht => ?_⟩
  obtain ⟨c0, c1, c2, c3, c4⟩ := h5 i t ht
  rw [hb.cell (p := ⟨b, off + i * 5, none⟩) (World.block_lt_of_cell? w _ c0), hb.cell (p := ⟨b, off + i * 5 + 1, none⟩) (World.block_lt_of_cell? w _ c1), hb.cell (p := ⟨b, off + i * 5 + 2, none⟩) (World.block_lt_of_cell? w _ c2), hb.cell (p := ⟨b, off + i * 5 + 3, none⟩) (World.block_lt_of_cell? w _ c3), hb.cell (p := ⟨b, off + i * 5 + 4, none⟩) (World.block_lt_of_cell? w _ c4)]
  exact ⟨c0, c1, c2, c3, c4⟩
theorem RdF.of_owns {w : World} {base : Nat} {e : TypeId} {v : Value} {n : Nat} {ts : List Ed} (h : w.ownsRow base e 5 v n (fiv ts)) : RdF w v ts := by
  obtain ⟨hl, h⟩ := h
  rw [fiv_len] at hl
  have hn : ts.length = n := by omega
  rcases h with ⟨rfl, rfl⟩ | ⟨q, cap, cur, rfl, hb, hg, hc, hm, hs, ht⟩
  · obtain rfl := List.eq_nil_of_length_eq_zero hn
    exact ⟨none, 0, 0, 0, rfl, Nat.le_refl _, Nat.zero_le _, .inl rfl, by simp⟩
  · refine ⟨_, cap, q, 0, by rw [hn], by omega, hm, .inr rfl, fun i t hti => ?_⟩
    have hi : i < n := by rw [← hn]; exact (List.getElem?_eq_some_iff.1 hti).1
    obtain ⟨g0, g1, g2, g3, g4⟩ := fiv_get ts i t hti
    have each : ∀ j u, j < n * 5 → (fiv ts)[j]? = some u → w.cell? ⟨q, 0 + j, none⟩ = some u := by
      intro j u hj hu
      rw [Lib.cell_of_heap hg, Nat.zero_add]
      have h2 : (cur.toList.take (n * 5))[j]? = some u := by rw [ht]; exact hu
      rw [List.getElem?_take_of_lt hj] at h2
      rwa [Array.getElem?_toList] at h2
    exact ⟨each _ _ (by omega) g0, each (i * 5 + 1) _ (by omega) g1, each (i * 5 + 2) _ (by omega) g2, each (i * 5 + 3) _ (by omega) g3, each (i * 5 + 4) _ (by omega) g4⟩
theorem info_op : (Tryd.prog.info? 63).map (fun i => (i.zero, i.size, i.bytes)) = some (some (.agg #[.int .u8 0, .int .i64 0, .int .i64 0, .int .i64 0, .int .i64 0]), 5, 40) := by kernel_rfl
theorem info_edit : (Tryd.prog.info? 34).map (fun i => (i.zero, i.size, i.bytes)) = some (some (.agg #[.int .u8 0, .int .i64 0, .int .i64 0, .int .i64 0, .int .i64 0]), 5, 40) := by kernel_rfl
theorem cell_five (w : World) (b : Nat) (x y z u v : Value) (t : TypeId) (h : w.heap[b]? = some (.cells #[x, y, z, u, v] t)) : ∀ j q, [x, y, z, u, v][j]? = some q → w.cell? ((⟨b, 0, none⟩ : Addr).add j) = some q := by
  intro j q hj
  have e : (⟨b, 0, none⟩ : Addr).add j = ⟨b, j, none⟩ := by
    simp [Addr.add]
    intro h0; exact h0.symm
  rw [e, Lib.cell_of_heap h]
  match j, hj with
  | 0, hj => exact hj
  | 1, hj => exact hj
  | 2, hj => exact hj
  | 3, hj => exact hj
  | 4, hj => exact hj
theorem join_mem {la lb : Nat} : ∀ (ms : List Tri), (∀ t ∈ ms, t.1 + t.2.2 ≤ la ∧ t.2.1 + t.2.2 ≤ lb) → ∀ s : List Tri × Tri, (∀ t ∈ s.1, t.1 + t.2.2 ≤ la ∧ t.2.1 + t.2.2 ≤ lb) → s.2.1 + s.2.2.2 ≤ la → s.2.2.1 + s.2.2.2 ≤ lb →
    ∀ t ∈ (ms.foldl joinStep s).1, t.1 + t.2.2 ≤ la ∧ t.2.1 + t.2.2 ≤ lb
  | [], _, s, h, _, _ => h
  | t :: ms, h, s, hs, h1, h2 => by
    have ht := h t (List.mem_cons_self ..)
    refine join_mem ms (fun t' h' => h t' (List.mem_cons_of_mem _ h')) (joinStep s t) ?_ ?_ ?_
    · unfold joinStep
      split
      · exact hs
      · simp only
        split
        · intro t' ht'
          rcases List.mem_append.1 ht' with h3 | h3
          · exact hs t' h3
          · simp at h3; subst h3; exact ⟨h1, h2⟩
        · exact hs
    · unfold joinStep
      split
      · simp only; omega
      · exact ht.1
    · unfold joinStep
      split
      · simp only; omega
      · exact ht.2
theorem gmb_bound {a b : List ByteArray} {L : ByteArray → List Nat} (hL : ∀ v j, j ∈ L v → b[j]? = some v) : (∀ t ∈ gmb a b L, t.1 + t.2.2 ≤ a.length ∧ t.2.1 + t.2.2 ≤ b.length) ∧ (gmb a b L).length ≤ a.length + 2 := by
  have hF := flm_ok (a := a) hL
  have hb := mb_bound hF a.length 0 a.length 0 b.length (Nat.zero_le _) (Nat.le_refl _) (Nat.zero_le _) (Nat.le_refl _)
  have hl := mb_len hF a.length 0 a.length 0 b.length (Nat.zero_le _) (Nat.le_refl _) (Nat.zero_le _) (Nat.le_refl _)
  have hj := join_ok (la := a.length) (lb := b.length) _ hb ([], 0, 0, 0) (Nat.zero_le _) (Nat.zero_le _)
  have hm := join_mem (la := a.length) (lb := b.length) _ hb ([], 0, 0, 0) (by simp) (Nat.zero_le _) (Nat.zero_le _)
  unfold gmb joined joinEnd
  generalize (mbF (flm a b L) a.length 0 a.length 0 b.length) = ms at *
  generalize ms.foldl joinStep ([], 0, 0, 0) = s at *
  obtain ⟨j1, j2, j3⟩ := hj
  constructor
  · intro t ht
    rcases List.mem_append.1 ht with h | h
    · split at h
      · rcases List.mem_append.1 h with h3 | h3
        · exact hm t h3
        · simp at h3; subst h3; exact ⟨j1, j2⟩
      · exact hm t h
    · simp at h; subst h; simp
  · simp only [List.length_append, List.length_singleton, List.length_nil, Nat.zero_add] at j3 ⊢
    split
    · simp only [List.length_append, List.length_singleton]; omega
    · omega
theorem op_snoc (ms : List Tri) (t : Tri) : (ms ++ [t]).foldl opStep ([], 0, 0) = opStep (ms.foldl opStep ([], 0, 0)) t := by simp
theorem op_ok {la lb : Nat} : ∀ (ms : List Tri), (∀ t ∈ ms, t.1 + t.2.2 ≤ la ∧ t.2.1 + t.2.2 ≤ lb) → ∀ s : List Ed × Nat × Nat, s.2.1 ≤ la → s.2.2 ≤ lb →
    (ms.foldl opStep s).2.1 ≤ la ∧ (ms.foldl opStep s).2.2 ≤ lb ∧ (ms.foldl opStep s).1.length ≤ s.1.length + 2 * ms.length
  | [], _, s, h1, h2 => ⟨h1, h2, by simp⟩
  | t :: ms, h, s, h1, h2 => by
    have ht := h t (List.mem_cons_self ..)
    have key : (opStep s t).1.length ≤ s.1.length + 2 := by
      unfold opStep
      simp only
      split <;> split <;> simp
    obtain ⟨g1, g2, g3⟩ := op_ok ms (fun t' h' => h t' (List.mem_cons_of_mem _ h')) (opStep s t) ht.1 ht.2
    refine ⟨g1, g2, ?_⟩
    show (ms.foldl opStep (opStep s t)).1.length ≤ _
    rw [List.length_cons]
    omega
theorem nil_ops (w : World) : (binOp BinOp.neq 49 (.slice none 0 0) (.slice none 0 0)).run Tryd.prog w = .ok (.bool false) w := by kernel_rfl
end Go.Proofs.YtkbppaddghfgpaaDoor
