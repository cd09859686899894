/- The plain law of FnDiffEdits: the edits follow one another, match where they say so, and alternate. -/
import Derived.Test.YtkbppaddghfgpaaDoorDif8
set_option linter.unusedVariables false
set_option linter.unusedSimpArgs false
set_option linter.unusedSectionVars false
namespace Go.Proofs.YtkbppaddghfgpaaDoor

section
variable (a b : List ByteArray)
/-- Equal from x and y on, k elements long, within the lists. -/
def Eqs (x y k : Nat) : Prop := x + k ≤ a.length ∧ y + k ≤ b.length ∧ ∀ t, t < k → a[x + t]? = b[y + t]?
/-- Blocks one behind the other, between (i, j) and (I, J). -/
def RC (I J : Nat) : Nat → Nat → List Tri → Prop
  | i, j, [] => i ≤ I ∧ j ≤ J
  | i, j, t :: r => i ≤ t.1 ∧ j ≤ t.2.1 ∧ 0 < t.2.2 ∧ Eqs a b t.1 t.2.1 t.2.2 ∧ RC I J (t.1 + t.2.2) (t.2.1 + t.2.2) r
/-- The same up to the ends, closed by the empty block there, no two of them adjacent. -/
def Chn : Nat → Nat → Bool → List Tri → Prop
  | i, j, adj, [] => False
  | i, j, adj, t :: r => i ≤ t.1 ∧ j ≤ t.2.1 ∧ ((r = [] ∧ t = (a.length, b.length, 0)) ∨
      (0 < t.2.2 ∧ Eqs a b t.1 t.2.1 t.2.2 ∧ (adj = true → ¬ (t.1 = i ∧ t.2.1 = j)) ∧ Chn (t.1 + t.2.2) (t.2.1 + t.2.2) true r))
/-- Edits as EditsRight wants them. -/
def EdOk : Nat → Nat → Option Bool → List Ed → Prop
  | i, j, prev, [] => i = a.length ∧ j = b.length
  | i, j, prev, e :: r => e.i1 = i ∧ e.j1 = j ∧ e.i1 ≤ e.i2 ∧ e.i2 ≤ a.length ∧ e.j1 ≤ e.j2 ∧ e.j2 ≤ b.length ∧ prev ≠ some (e.tag == 101) ∧
      ((e.tag = 101 ∧ e.i1 < e.i2 ∧ e.i2 - e.i1 = e.j2 - e.j1 ∧ Eqs a b e.i1 e.j1 (e.i2 - e.i1)) ∨ (e.tag ≠ 101 ∧ e.tag ≠ 0 ∧ tagOf e.i1 e.i2 e.j1 e.j2 = e.tag)) ∧ EdOk e.i2 e.j2 (some (e.tag == 101)) r
variable {a b}
theorem RC.app {I1 J1 I J : Nat} : ∀ {l1 l2 : List Tri} {i j : Nat}, RC a b I1 J1 i j l1 → (∀ i' j', i' ≤ I1 → j' ≤ J1 → RC a b I J i' j' l2) → RC a b I J i j (l1 ++ l2)
  | [], l2, i, j, h, h2 => h2 i j h.1 h.2
  | t :: r, l2, i, j, h, h2 => ⟨h.1, h.2.1, h.2.2.1, h.2.2.2.1, RC.app h.2.2.2.2 h2⟩
theorem mb_rc {L : ByteArray → List Nat} (hL : ∀ v j, j ∈ L v → b[j]? = some v) : ∀ f alo ahi blo bhi, alo ≤ ahi → ahi ≤ a.length → blo ≤ bhi → bhi ≤ b.length → RC a b ahi bhi alo blo (mbF (flm a b L) f alo ahi blo bhi)
  | 0, _, _, _, _, h1, _, h3, _ => ⟨h1, h3⟩
  | f + 1, alo, ahi, blo, bhi, h1, h2, h3, h4 => by
    obtain ⟨g1, g2, g3, g4, g5⟩ := flm_blk (a := a) hL h1 h3
    rcases Nat.eq_zero_or_pos (flm a b L alo ahi blo bhi).2.2 with h0 | h0
    · rw [mb_zero _ _ _ _ _ _ h0]; exact ⟨h1, h3⟩
    · rw [mb_pos _ _ _ _ _ _ h0 (by omega), Nat.add_sub_cancel]
      generalize flm a b L alo ahi blo bhi = t at *
      refine RC.app (I1 := t.1) (J1 := t.2.1) ?_ (fun i' j' hi' hj' => ⟨hi', hj', h0, ⟨by omega, by omega, g5⟩, ?_⟩)
      · split
        · exact mb_rc hL f _ _ _ _ (by omega) (by omega) (by omega) (by omega)
        · exact ⟨g1, g3⟩
      · split
        · exact mb_rc hL f _ _ _ _ (by omega) (by omega) (by omega) (by omega)
        · exact ⟨g2, g4⟩
def jn (la lb : Nat) : Tri → List Tri → List Tri
  | cur, [] => (if 0 < cur.2.2 then [cur] else []) ++ [(la, lb, 0)]
  | cur, t :: r => if cur.1 + cur.2.2 = t.1 ∧ cur.2.1 + cur.2.2 = t.2.1 then jn la lb (cur.1, cur.2.1, cur.2.2 + t.2.2) r else (if 0 < cur.2.2 then [cur] else []) ++ jn la lb t r
theorem join_jn (la lb : Nat) : ∀ (ms : List Tri) (out : List Tri) (cur : Tri), joinEnd (ms.foldl joinStep (out, cur)) la lb = out ++ jn la lb cur ms
  | [], out, cur => by
    unfold joinEnd jn
    by_cases hk : 0 < cur.2.2
    · simp [hk]
    · simp [hk]
  | t :: r, out, cur => by
    rw [List.foldl_cons]
    by_cases hadj : cur.1 + cur.2.2 = t.1 ∧ cur.2.1 + cur.2.2 = t.2.1
    · have e : joinStep (out, cur) t = (out, cur.1, cur.2.1, cur.2.2 + t.2.2) := by
        unfold joinStep
        simp only
        rw [if_pos hadj]
      rw [e, join_jn la lb r]
      conv => rhs; unfold jn
      rw [if_pos hadj]
    · have e : joinStep (out, cur) t = (if 0 < cur.2.2 then out ++ [cur] else out, t) := by
        unfold joinStep
        simp only
        rw [if_neg hadj]
      rw [e, join_jn la lb r]
      conv => rhs; unfold jn
      rw [if_neg hadj]
      by_cases hk : 0 < cur.2.2
      · simp [hk]
      · simp [hk]
theorem Eqs.join {x y k x' y' k' : Nat} (h : Eqs a b x y k) (h' : Eqs a b x' y' k') (e1 : x + k = x') (e2 : y + k = y') : Eqs a b x y (k + k') := by
  obtain ⟨g1, g2, g3⟩ := h
  obtain ⟨g1', g2', g3'⟩ := h'
  refine ⟨by omega, by omega, fun t ht => ?_⟩
  rcases Nat.lt_or_ge t k with h1 | h1
  · exact g3 t h1
  · have := g3' (t - k) (by omega)
    rw [show x' + (t - k) = x + t by omega, show y' + (t - k) = y + t by omega] at this
    exact this
theorem jn_chn : ∀ (ms : List Tri) (cur : Tri) (i j : Nat) (adj : Bool), i ≤ cur.1 → j ≤ cur.2.1 → Eqs a b cur.1 cur.2.1 cur.2.2 → (0 < cur.2.2 → adj = true → ¬ (cur.1 = i ∧ cur.2.1 = j)) → (cur.2.2 = 0 → cur = (0, 0, 0) ∧ i = 0 ∧ j = 0 ∧ adj = false) →
    RC a b a.length b.length (cur.1 + cur.2.2) (cur.2.1 + cur.2.2) ms → Chn a b i j adj (jn a.length b.length cur ms)
  | [], cur, i, j, adj, h1, h2, he, hn, hz, hr => by
    unfold jn
    split
    · rename_i hk
      refine ⟨h1, h2, .inr ⟨hk, he, hn hk, hr.1, hr.2, .inl ⟨rfl, rfl⟩⟩⟩
    · obtain ⟨_, rfl, rfl, _⟩ := hz (by omega)
      exact ⟨Nat.zero_le _, Nat.zero_le _, .inl ⟨rfl, rfl⟩⟩
  | t :: r, cur, i, j, adj, h1, h2, he, hn, hz, hr => by
    obtain ⟨r1, r2, r3, r4, r5⟩ := hr
    unfold jn
    split
    · rename_i hadj
      refine jn_chn r _ i j adj h1 h2 (he.join r4 hadj.1 hadj.2) (fun _ hA => ?_) (fun h0 => by simp only at h0; omega) ?_
      · rcases Nat.eq_zero_or_pos cur.2.2 with h0 | h0
        · obtain ⟨_, _, _, h3⟩ := hz h0
          rw [h3] at hA; cases hA
        · exact hn h0 hA
      · simp only
        rw [show cur.1 + (cur.2.2 + t.2.2) = t.1 + t.2.2 by omega, show cur.2.1 + (cur.2.2 + t.2.2) = t.2.1 + t.2.2 by omega]
        exact r5
    · rename_i hadj
      split
      · rename_i hk
        have ih := jn_chn r t (cur.1 + cur.2.2) (cur.2.1 + cur.2.2) true r1 r2 r4 (fun _ _ h => hadj ⟨h.1.symm, h.2.symm⟩) (fun h0 => by omega) r5
        exact ⟨h1, h2, .inr ⟨hk, he, hn hk, ih⟩⟩
      · obtain ⟨rfl, rfl, rfl, rfl⟩ := hz (by omega)
        exact jn_chn r t 0 0 false (Nat.zero_le _) (Nat.zero_le _) r4 (fun _ h => by cases h) (fun h0 => by omega) r5
theorem gmb_chn {L : ByteArray → List Nat} (hL : ∀ v j, j ∈ L v → b[j]? = some v) : Chn a b 0 0 false (gmb a b L) := by
  have h := mb_rc (a := a) hL a.length 0 a.length 0 b.length (Nat.zero_le _) (Nat.le_refl _) (Nat.zero_le _) (Nat.le_refl _)
  unfold gmb joined
  rw [join_jn, List.nil_append]
  exact jn_chn _ (0, 0, 0) 0 0 false (Nat.le_refl _) (Nat.le_refl _) ⟨Nat.zero_le _, Nat.zero_le _, fun t ht => by simp at ht⟩ (fun h => by simp at h) (fun _ => ⟨rfl, rfl, rfl, rfl⟩) h
theorem op_out : ∀ (ms : List Tri) (out : List Ed) (i j : Nat), (ms.foldl opStep (out, i, j)).1 = out ++ (ms.foldl opStep ([], i, j)).1
  | [], out, i, j => by simp
  | t :: r, out, i, j => by
    rw [List.foldl_cons, List.foldl_cons]
    have e : ∀ out : List Ed, opStep (out, i, j) t = (out ++ (opStep ([], i, j) t).1, t.1 + t.2.2, t.2.1 + t.2.2) := by
      intro out
      unfold opStep
      simp only
      split <;> split <;> simp
    rw [e out, e []]
    rw [op_out r (out ++ _), op_out r ([] ++ _)]
    simp
theorem tag_cases (i x j y : Nat) : (tagOf i x j y = 0 ∧ ¬ i < x ∧ ¬ j < y) ∨ (tagOf i x j y ≠ 0 ∧ tagOf i x j y ≠ 101) := by
  unfold tagOf
  split
  · right; omega
  · split
    · right; omega
    · split
      · right; omega
      · left; omega
theorem edits_ok : ∀ (ms : List Tri) (i j : Nat) (adj : Bool), Chn a b i j adj ms → EdOk a b i j (if adj then some true else none) (ms.foldl opStep ([], i, j)).1
  | [], i, j, adj, h => h.elim
  | t :: r, i, j, adj, h => by
    obtain ⟨h1, h2, h3⟩ := h
    rw [List.foldl_cons]
    have e : opStep ([], i, j) t = ((if 0 < tagOf i t.1 j t.2.1 then [(⟨tagOf i t.1 j t.2.1, i, t.1, j, t.2.1⟩ : Ed)] else []) ++ (if 0 < t.2.2 then [(⟨101, t.1, t.1 + t.2.2, t.2.1, t.2.1 + t.2.2⟩ : Ed)] else []), t.1 + t.2.2, t.2.1 + t.2.2) := by
      unfold opStep
      simp only
      split <;> split <;> simp
    rw [e, op_out, List.append_assoc]
    have hprev : (if adj then some true else none) ≠ some false := by cases adj <;> simp
    have key : ∀ prev : Option Bool, prev ≠ some true → (t.1 = i ∧ t.2.1 = j ∨ prev = some false) → True := fun _ _ _ => trivial
    -- what follows the gap
    have rest : ∀ prev : Option Bool, prev ≠ some true → EdOk a b t.1 t.2.1 prev ((if 0 < t.2.2 then [(⟨101, t.1, t.1 + t.2.2, t.2.1, t.2.1 + t.2.2⟩ : Ed)] else []) ++ (r.foldl opStep ([], t.1 + t.2.2, t.2.1 + t.2.2)).1) := by
      intro prev hp
      rcases h3 with ⟨rfl, rfl⟩ | ⟨hk, he, _, hr⟩
      · rw [if_neg (by simp)]
        exact ⟨rfl, rfl⟩
      · rw [if_pos hk]
        refine ⟨rfl, rfl, by simp, he.1, by simp, he.2.1, hp, .inl ⟨rfl, by simp only; omega, by simp only; omega, ?_⟩, ?_⟩
        · simp only
          rw [Nat.add_sub_cancel_left]
          exact he
        · exact edits_ok r _ _ true hr
    rcases tag_cases i t.1 j t.2.1 with ⟨h0, hx, hy⟩ | ⟨h0, h101⟩
    · rw [if_neg (show ¬ 0 < tagOf i t.1 j t.2.1 by omega), List.nil_append]
      have e1 : t.1 = i := by omega
      have e2 : t.2.1 = j := by omega
      cases adj with
      | false =>
        have := rest none (by simp)
        rw [e1, e2] at this
        rw [e1, e2]
        exact this
      | true =>
        rcases h3 with ⟨rfl, rfl⟩ | ⟨_, _, hno, _⟩
        · simp only at e1 e2
          rw [if_neg (show ¬ 0 < ((a.length, b.length, 0) : Tri).2.2 by simp)]
          exact ⟨e1.symm, e2.symm⟩
        · exact absurd ⟨e1, e2⟩ (hno rfl)
    · rw [if_pos (show 0 < tagOf i t.1 j t.2.1 by omega), List.singleton_append]
      have hb : t.1 ≤ a.length ∧ t.2.1 ≤ b.length := by
        rcases h3 with ⟨_, rfl⟩ | ⟨_, he, _⟩
        · exact ⟨Nat.le_refl _, Nat.le_refl _⟩
        · have := he.1; have := he.2.1; omega
      have hf : (tagOf i t.1 j t.2.1 == 101) = false := by simp [h101]
      refine ⟨rfl, rfl, h1, hb.1, h2, hb.2, by rw [hf]; exact hprev, .inr ⟨h101, h0, rfl⟩, ?_⟩
      rw [hf]
      exact rest (some false) (by simp)
theorem edits_right {L : ByteArray → List Nat} (hL : ∀ v j, j ∈ L v → b[j]? = some v) : EdOk a b 0 0 none (edits (gmb a b L)) := edits_ok _ 0 0 false (gmb_chn hL)
end
end Go.Proofs.YtkbppaddghfgpaaDoor
