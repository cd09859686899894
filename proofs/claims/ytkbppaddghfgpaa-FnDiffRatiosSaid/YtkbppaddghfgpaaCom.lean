/- Elements that two lists have in common, in three ways of counting. Plain facts, no program in sight. -/
import Derived.Test.YtkbppaddghfgpaaRat
set_option linter.unusedVariables false
set_option linter.unusedSimpArgs false
set_option linter.unusedSectionVars false
namespace Go.Proofs.Ytkbppaddghfgpaa

section
variable {α : Type} [DecidableEq α]
/-- How many elements two lists have in common, whatever their order. -/
def comm : List α → List α → Nat
  | [], _ => 0
  | x :: a, b => if b.contains x then comm a (b.erase x) + 1 else comm a b
/-- The same by numbers: an element counts while fewer like it have been seen than the other list has. -/
def qs (b : List α) : List α → List α → Nat
  | _, [] => 0
  | seen, x :: r => (if seen.count x < b.count x then 1 else 0) + qs b (seen ++ [x]) r
theorem comm_qs (b : List α) : ∀ (a seen b' : List α), (∀ x, b'.count x = b.count x - seen.count x) → comm a b' = qs b seen a
  | [], _, _, _ => rfl
  | x :: a, seen, b', h => by
    unfold comm qs
    have hx := h x
    by_cases hc : b'.contains x = true
    · have hm : x ∈ b' := List.contains_iff_mem.1 hc
      have hp : 0 < b'.count x := List.count_pos_iff.2 hm
      rw [if_pos hc, if_pos (by omega), comm_qs b a (seen ++ [x]) (b'.erase x) (fun y => ?_)]
      · omega
      · rw [List.count_append]
        by_cases hy : x = y
        · subst hy
          rw [List.count_erase_self, List.count_singleton_self, h x]
          omega
        · have hne : y ≠ x := fun e => hy e.symm
          rw [List.count_erase_of_ne hne, h y]
          have : List.count y [x] = 0 := by simp [List.count_cons, hy]
          omega
    · have hm : ¬ x ∈ b' := fun hm => hc (List.contains_iff_mem.2 hm)
      have hp : b'.count x = 0 := List.count_eq_zero.2 hm
      rw [if_neg hc, if_neg (by omega), Nat.zero_add]
      refine comm_qs b a (seen ++ [x]) b' (fun y => ?_)
      rw [List.count_append]
      by_cases hy : x = y
      · subst hy
        rw [List.count_singleton_self]
        omega
      · have : List.count y [x] = 0 := by simp [List.count_cons, hy]
        rw [h y]
        omega
theorem comm_qs0 (a b : List α) : comm a b = qs b [] a := comm_qs b a [] b (fun x => by simp)
/-- A list that lies in both is not longer. -/
theorem comm_ge : ∀ (a b l : List α), l.Sublist a → (∀ x, l.count x ≤ b.count x) → l.length ≤ comm a b
  | [], _, l, h, _ => by
    have : l = [] := List.sublist_nil.1 h
    subst this
    exact Nat.zero_le _
  | x :: a, b, l, h, hb => by
    unfold comm
    by_cases hc : b.contains x = true
    · rw [if_pos hc]
      have hm : x ∈ b := List.contains_iff_mem.1 hc
      have hp : 0 < b.count x := List.count_pos_iff.2 hm
      have hsub : (l.erase x).Sublist a := by
        have := h.erase x
        rwa [List.erase_cons_head] at this
      have ih := comm_ge a (b.erase x) (l.erase x) hsub (fun y => by
        by_cases hy : x = y
        · subst hy
          rw [List.count_erase_self, List.count_erase_self]
          have := hb x
          omega
        · have hne : y ≠ x := fun e => hy e.symm
          rw [List.count_erase_of_ne hne, List.count_erase_of_ne hne]
          exact hb y)
      have : l.length ≤ (l.erase x).length + 1 := by
        by_cases hl : x ∈ l
        · rw [List.length_erase_of_mem hl]; omega
        · rw [List.erase_of_not_mem hl]; omega
      omega
    · rw [if_neg hc]
      have hm : ¬ x ∈ b := fun hm => hc (List.contains_iff_mem.2 hm)
      have hp : b.count x = 0 := List.count_eq_zero.2 hm
      have hl : ¬ x ∈ l := fun hl => by
        have := List.count_pos_iff.2 hl
        have := hb x
        omega
      cases h with
      | cons _ h => exact comm_ge a b l h hb
      | cons_cons _ h => exact absurd (List.mem_cons_self ..) hl
theorem comm_le_left : ∀ (a b : List α), comm a b ≤ a.length
  | [], _ => Nat.le_refl _
  | x :: a, b => by
    unfold comm
    have h1 := comm_le_left a (b.erase x)
    have h2 := comm_le_left a b
    rw [List.length_cons]
    split <;> omega
theorem comm_le_right : ∀ (a b : List α), comm a b ≤ b.length
  | [], _ => Nat.zero_le _
  | x :: a, b => by
    unfold comm
    by_cases hc : b.contains x = true
    · rw [if_pos hc]
      have hm : x ∈ b := List.contains_iff_mem.1 hc
      have h1 := comm_le_right a (b.erase x)
      rw [List.length_erase_of_mem hm] at h1
      have : 0 < b.length := List.length_pos_of_mem hm
      omega
    · rw [if_neg hc]
      exact comm_le_right a b
/-- What has not been used yet. -/
def lft : List α → List Bool → List α
  | y :: b, u :: us => if u then lft b us else y :: lft b us
  | _, _ => []
theorem lft_app : ∀ (b1 : List α) (u1 : List Bool) (b2 : List α) (u2 : List Bool), b1.length = u1.length → lft (b1 ++ b2) (u1 ++ u2) = lft b1 u1 ++ lft b2 u2
  | [], [], _, _, _ => rfl
  | [], _ :: _, _, _, h => by cases h
  | _ :: _, [], _, _, h => by cases h
  | y :: b1, u :: u1, b2, u2, h => by
    have ih := lft_app b1 u1 b2 u2 (by simpa using h)
    simp only [List.cons_append, lft]
    cases u <;> simp [ih]
theorem lft_start : ∀ (b : List α), lft b (List.replicate b.length false) = b
  | [] => rfl
  | y :: b => by
    rw [List.length_cons, List.replicate_succ]
    simp [lft, lft_start b]
theorem lft_at {b : List α} {us : List Bool} {j : Nat} (hl : us.length = b.length) (hj : j < b.length) : lft b us = lft (b.take j) (us.take j) ++ ((if us[j] then [] else [b[j]]) ++ lft (b.drop (j + 1)) (us.drop (j + 1))) := by
  have e1 : b = b.take j ++ (b[j] :: b.drop (j + 1)) := by rw [← List.drop_eq_getElem_cons hj, List.take_append_drop]
  have hj2 : j < us.length := by omega
  have e2 : us = us.take j ++ (us[j] :: us.drop (j + 1)) := by rw [← List.drop_eq_getElem_cons hj2, List.take_append_drop]
  have h3 : lft b us = lft (b.take j ++ (b[j] :: b.drop (j + 1))) (us.take j ++ (us[j] :: us.drop (j + 1))) := by rw [← e1, ← e2]
  rw [h3, lft_app _ _ _ _ (by rw [List.length_take, List.length_take]; omega)]
  congr 1
  simp only [lft]
  cases us[j] <;> simp
theorem lft_take {b : List α} {us : List Bool} {j : Nat} (hl : us.length = b.length) (hj : j < b.length) : lft (b.take (j + 1)) (us.take (j + 1)) = lft (b.take j) (us.take j) ++ (if us[j] then [] else [b[j]]) := by
  have hj2 : j < us.length := by omega
  rw [List.take_succ_eq_append_getElem hj, List.take_succ_eq_append_getElem hj2, lft_app _ _ _ _ (by rw [List.length_take, List.length_take]; omega)]
  congr 1
/-- The first unused element like x is used: it is struck from what is left. -/
theorem lft_hit {b : List α} {us : List Bool} {j : Nat} (hl : us.length = b.length) (hj : j < b.length) (hu : us[j]'(by omega) = false) (hn : ¬ b[j] ∈ lft (b.take j) (us.take j)) :
    b[j] ∈ lft b us ∧ lft b (us.set j true) = (lft b us).erase b[j] := by
  have hj2 : j < us.length := by omega
  have e := lft_at hl hj
  rw [hu] at e
  simp only [Bool.false_eq_true, if_false, List.singleton_append] at e
  have e2 := lft_at (b := b) (us := us.set j true) (j := j) (by rw [List.length_set]; exact hl) hj
  rw [List.getElem_set_self, List.take_set_of_le (Nat.le_refl _), List.drop_set_of_lt (by omega)] at e2
  simp only [if_true, List.nil_append] at e2
  refine ⟨by rw [e]; simp, ?_⟩
  rw [e2, e, List.erase_append_right _ hn, List.erase_cons_head]
theorem comm_hit {b : List α} {us : List Bool} {j : Nat} (hl : us.length = b.length) (hj : j < b.length) (hu : us[j]'(by omega) = false) (x : α) (hx : b[j] = x) (hn : ¬ x ∈ lft (b.take j) (us.take j)) (a : List α) : comm (x :: a) (lft b us) = comm a (lft b (us.set j true)) + 1 := by
  subst hx
  obtain ⟨h1, h2⟩ := lft_hit hl hj hu hn
  rw [h2]
  show (if (lft b us).contains b[j] then _ else _) = _
  rw [if_pos (List.contains_iff_mem.2 h1)]
theorem comm_miss {b : List α} {us : List Bool} (x : α) (hl : us.length = b.length) (hn : ¬ x ∈ lft (b.take b.length) (us.take b.length)) (a : List α) : comm (x :: a) (lft b us) = comm a (lft b us) := by
  rw [List.take_length, ← hl, List.take_length] at hn
  show (if (lft b us).contains x then _ else _) = _
  rw [if_neg (fun h => hn (List.contains_iff_mem.1 h))]
theorem lft_next {b : List α} {us : List Bool} {j : Nat} (hl : us.length = b.length) (hj : j < b.length) (x : α) (hn : ¬ x ∈ lft (b.take j) (us.take j)) (h : us[j]'(by omega) = true ∨ ¬ x = b[j]) : ¬ x ∈ lft (b.take (j + 1)) (us.take (j + 1)) := by
  rw [lft_take hl hj, List.mem_append]
  rintro (h1 | h1)
  · exact hn h1
  · rcases h with h | h
    · rw [h] at h1; simp at h1
    · split at h1
      · simp at h1
      · exact h (List.mem_singleton.1 h1)
/-- How often an element stands in a list. -/
def cnt (l : List α) (y : α) : Nat := l.count y
theorem qs_step (b seen : List α) (x : α) (r : List α) : qs b seen (x :: r) = (if cnt seen x < cnt b x then 1 else 0) + qs b (seen ++ [x]) r := rfl
theorem cnt_snoc (l : List α) (x y : α) : cnt (l ++ [x]) y = cnt l y + if x = y then 1 else 0 := by
  unfold cnt
  rw [List.count_append, List.count_singleton]
  by_cases h : x = y
  · subst h; simp
  · simp [h]
theorem cnt_zero {l : List α} {y : α} (h : ¬ y ∈ l) : cnt l y = 0 := List.count_eq_zero.2 h
theorem cnt_le (l : List α) (y : α) : cnt l y ≤ l.length := List.count_le_length
/-- The numbers of the first k elements, as a map holds them. -/
def fB (b : List α) (k : Nat) (y : α) : Option Int := if y ∈ b.take k then some (cnt (b.take k) y : Int) else none
/-- What is left of an element's number when i elements have been seen. -/
def gA (a b : List α) (i : Nat) (y : α) : Option Int := if y ∈ a.take i then some ((cnt b y : Int) - cnt (a.take i) y) else none
theorem fB_zero (b : List α) : fB b 0 = fun _ => none := by funext y; simp [fB]
theorem gA_zero (a b : List α) : gA a b 0 = fun _ => none := by funext y; simp [gA]
theorem fB_get (b : List α) (k : Nat) (y : α) : (fB b k y).getD 0 = (cnt (b.take k) y : Int) := by
  unfold fB
  split
  · rfl
  · rename_i h; rw [cnt_zero h]; rfl
theorem fB_next (b : List α) (k : Nat) (h : k < b.length) : fB b (k + 1) = fun y => if y = b[k] then some ((cnt (b.take k) b[k] : Int) + 1) else fB b k y := by
  funext y
  unfold fB
  rw [List.take_succ_eq_append_getElem h, cnt_snoc]
  by_cases hy : y = b[k]
  · subst hy
    rw [if_pos (List.mem_append.2 (.inr (List.mem_singleton.2 rfl))), if_pos rfl, if_pos rfl]
    rfl
  · have hy' : ¬ b[k] = y := fun e => hy e.symm
    rw [if_neg hy', if_neg hy, Nat.add_zero]
    have : (y ∈ b.take k ++ [b[k]]) ↔ y ∈ b.take k := by rw [List.mem_append, List.mem_singleton]; exact ⟨fun h => h.resolve_right hy, .inl⟩
    simp only [this]
theorem gA_next (a b : List α) (i : Nat) (h : i < a.length) : gA a b (i + 1) = fun y => if y = a[i] then some ((cnt b a[i] : Int) - cnt (a.take i) a[i] - 1) else gA a b i y := by
  funext y
  unfold gA
  rw [List.take_succ_eq_append_getElem h, cnt_snoc]
  by_cases hy : y = a[i]
  · subst hy
    rw [if_pos (List.mem_append.2 (.inr (List.mem_singleton.2 rfl))), if_pos rfl, if_pos rfl]
    congr 1
    omega
  · have hy' : ¬ a[i] = y := fun e => hy e.symm
    rw [if_neg hy', if_neg hy, Nat.add_zero]
    have : (y ∈ a.take i ++ [a[i]]) ↔ y ∈ a.take i := by rw [List.mem_append, List.mem_singleton]; exact ⟨fun h => h.resolve_right hy, .inl⟩
    simp only [this]
theorem gA_some {a b : List α} {i : Nat} {y : α} (h : (gA a b i y).isSome = true) : (gA a b i y).getD 0 = (cnt b y : Int) - cnt (a.take i) y := by
  unfold gA at h ⊢
  split
  · rfl
  · rename_i hn; rw [if_neg hn] at h; cases h
theorem gA_none {a b : List α} {i : Nat} {y : α} (h : (gA a b i y).isSome = false) : cnt (a.take i) y = 0 := by
  unfold gA at h
  split at h
  · cases h
  · rename_i hn; exact cnt_zero hn
end
end Go.Proofs.Ytkbppaddghfgpaa
