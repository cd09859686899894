/- The program's longest match, in plain Lean: it is a block; where no place is left out, it is the longest one, and the first of several. -/
import Derived.Test.YtkbppaddghfgpaaDoorDif
set_option linter.unusedVariables false
set_option linter.unusedSimpArgs false
set_option linter.unusedSectionVars false
namespace Go.Proofs.YtkbppaddghfgpaaDoor

section
variable {α : Type} [DecidableEq α] (a b : List α)

theorem mem_idx {s : α} {j : Nat} : j ∈ idxL b s ↔ b[j]? = some s := by
  unfold idxL
  rw [List.mem_filter, List.mem_range]
  constructor
  · rintro ⟨_, h⟩; exact of_decide_eq_true h
  · intro h; exact ⟨(List.getElem?_eq_some_iff.1 h).1, decide_eq_true h⟩
theorem idx_sorted (s : α) : (idxL b s).Pairwise (· < ·) := List.Pairwise.filter _ List.pairwise_lt_range

/-- A block within bounds. -/
def Blk (alo ahi blo bhi x y k : Nat) : Prop := alo ≤ x ∧ x + k ≤ ahi ∧ blo ≤ y ∧ y + k ≤ bhi ∧ ∀ t, t < k → a[x + t]? = b[y + t]?
/-- How long the match is that ends ahead of row i, column j (counted from alo, blo). -/
def rl (alo blo : Nat) : Nat → Nat → Nat
  | 0, _ => 0
  | _ + 1, 0 => 0
  | i + 1, j + 1 => if a[alo + i]? = b[blo + j]? then rl alo blo i j + 1 else 0
theorem rl_le (alo blo : Nat) : ∀ i j, rl a b alo blo i j ≤ i ∧ rl a b alo blo i j ≤ j
  | 0, _ => by simp [rl]
  | _ + 1, 0 => by simp [rl]
  | i + 1, j + 1 => by
    have := rl_le alo blo i j
    unfold rl
    split <;> omega
theorem rl_eq (alo blo : Nat) : ∀ i j t, t < rl a b alo blo i j → a[alo + i - 1 - t]? = b[blo + j - 1 - t]?
  | 0, _, t, h => by simp [rl] at h
  | _ + 1, 0, t, h => by simp [rl] at h
  | i + 1, j + 1, t, h => by
    unfold rl at h
    split at h
    · rename_i he
      match t with
      | 0 => exact he
      | t + 1 =>
        have := rl_eq alo blo i j t (by omega)
        rw [show alo + (i + 1) - 1 - (t + 1) = alo + i - 1 - t by omega, show blo + (j + 1) - 1 - (t + 1) = blo + j - 1 - t by omega]
        exact this
    · omega
theorem rl_max (alo blo : Nat) : ∀ i j k, k ≤ i → k ≤ j → (∀ t, t < k → a[alo + i - 1 - t]? = b[blo + j - 1 - t]?) → k ≤ rl a b alo blo i j
  | _, _, 0, _, _, _ => Nat.zero_le _
  | 0, _, k + 1, h, _, _ => by omega
  | i + 1, 0, k + 1, _, h, _ => by omega
  | i + 1, j + 1, k + 1, h1, h2, h => by
    have h0 := h 0 (by omega)
    unfold rl
    rw [if_pos (by simpa using h0)]
    have := rl_max alo blo i j k (by omega) (by omega) (fun t ht => by
      have := h (t + 1) (by omega)
      rw [show alo + (i + 1) - 1 - (t + 1) = alo + i - 1 - t by omega, show blo + (j + 1) - 1 - (t + 1) = blo + j - 1 - t by omega] at this
      exact this)
    omega

/-- What the state says is true: lengths are lengths of matches; the best is a block. -/
structure Sound (alo blo bhi i : Nat) (s : FS) : Prop where
  ms : ∀ t, 0 < s.m t → blo < t ∧ t ≤ bhi ∧ s.m t ≤ rl a b alo blo i (t - blo)
  z : s.n = 0 → s.i = alo ∧ s.j = blo
  p : 0 < s.n → Blk a b alo (alo + i) blo bhi s.i s.j s.n
variable {a b}
theorem Blk.more {alo ahi ahi' blo bhi x y k : Nat} (h : Blk a b alo ahi blo bhi x y k) (hh : ahi ≤ ahi') : Blk a b alo ahi' blo bhi x y k := ⟨h.1, by have := h.2.1; omega, h.2.2⟩
theorem inStep_sound {alo blo bhi i : Nat} {old : Nat → Nat} {s : FS} {j : Nat} (ho : ∀ t, 0 < old t → blo < t ∧ t ≤ bhi ∧ old t ≤ rl a b alo blo i (t - blo)) (hs : Sound a b alo blo bhi (i + 1) s) (hj : j < bhi) (he : a[alo + i]? = b[j]?) :
    Sound a b alo blo bhi (i + 1) (inStep (alo + i) blo old s j) := by
  unfold inStep
  split
  · exact hs
  rename_i hb
  have hold : old j ≤ rl a b alo blo i (j - blo) := by
    rcases Nat.eq_zero_or_pos (old j) with h | h
    · omega
    · exact (ho j h).2.2
  have hrl : old j + 1 ≤ rl a b alo blo (i + 1) (j + 1 - blo) := by
    rw [show j + 1 - blo = (j - blo) + 1 by omega]
    unfold rl
    rw [if_pos (by rw [show blo + (j - blo) = j by omega]; exact he)]
    omega
  have hle := rl_le a b alo blo (i + 1) (j + 1 - blo)
  have hms : ∀ t, 0 < upd s.m (j + 1) (old j + 1) t → blo < t ∧ t ≤ bhi ∧ upd s.m (j + 1) (old j + 1) t ≤ rl a b alo blo (i + 1) (t - blo) := by
    intro t ht
    unfold upd at ht ⊢
    split at ht
    · rename_i h1
      rw [if_pos h1, h1]
      exact ⟨by omega, by omega, hrl⟩
    · rename_i h1
      rw [if_neg h1]
      exact hs.ms t ht
  have hblk : Blk a b alo (alo + (i + 1)) blo bhi (alo + i - old j) (j - old j) (old j + 1) := by
    refine ⟨by omega, by omega, by omega, by omega, fun t ht => ?_⟩
    have := rl_eq a b alo blo (i + 1) (j + 1 - blo) (old j - t) (by omega)
    rw [show alo + (i + 1) - 1 - (old j - t) = alo + i - old j + t by omega, show blo + (j + 1 - blo) - 1 - (old j - t) = j - old j + t by omega] at this
    exact this
  split
  · exact ⟨hms, fun h => absurd h (by simp), fun _ => hblk⟩
  · exact ⟨hms, hs.z, hs.p⟩
theorem inFold_sound {alo blo bhi i : Nat} {old : Nat → Nat} (ho : ∀ t, 0 < old t → blo < t ∧ t ≤ bhi ∧ old t ≤ rl a b alo blo i (t - blo)) : ∀ (js : List Nat) (s : FS), (∀ j ∈ js, j < bhi ∧ a[alo + i]? = b[j]?) → Sound a b alo blo bhi (i + 1) s →
    Sound a b alo blo bhi (i + 1) (inFold (alo + i) blo old js s)
  | [], s, _, h => h
  | j :: js, s, hj, h => inFold_sound ho js _ (fun j' h' => hj j' (List.mem_cons_of_mem _ h')) (inStep_sound ho h (hj j (List.mem_cons_self ..)).1 (hj j (List.mem_cons_self ..)).2)
theorem Sound.next {alo blo bhi i : Nat} {s : FS} (h : Sound a b alo blo bhi i s) : Sound a b alo blo bhi (i + 1) ⟨s.i, s.j, s.n, fun _ => 0⟩ :=
  ⟨fun t ht => absurd ht (by simp), h.z, fun hn => (h.p hn).more (by omega)⟩
theorem row_mem {L : α → List Nat} (hL : ∀ v j, j ∈ L v → b[j]? = some v) {x j : Nat} (h : j ∈ rowOf a L x) : a[x]? = b[j]? ∧ j < b.length := by
  unfold rowOf at h
  split at h
  · rename_i v hv
    have := hL v j h
    exact ⟨hv.trans this.symm, (List.getElem?_eq_some_iff.1 this).1⟩
  · cases h
theorem mem_take {p : Nat → Bool} : ∀ {l : List Nat} {j : Nat}, j ∈ l.takeWhile p → j ∈ l ∧ p j = true
  | [], j, h => by simp at h
  | x :: l, j, h => by
    rw [List.takeWhile_cons] at h
    split at h
    · rename_i hx
      rcases List.mem_cons.1 h with rfl | h
      · exact ⟨List.mem_cons_self .., hx⟩
      · exact ⟨List.mem_cons_of_mem _ (mem_take h).1, (mem_take h).2⟩
    · cases h
theorem outRun_sound {L : α → List Nat} (hL : ∀ v j, j ∈ L v → b[j]? = some v) (alo blo bhi : Nat) : ∀ i, Sound a b alo blo bhi i (outRun a L alo blo bhi i)
  | 0 => ⟨fun t ht => absurd ht (by simp [outRun]), fun _ => ⟨rfl, rfl⟩, fun h => absurd h (by simp [outRun])⟩
  | i + 1 => by
    have ih := outRun_sound hL alo blo bhi i
    unfold outRun outStep inRun
    refine inFold_sound ih.ms _ _ (fun j hj => ?_) ih.next
    obtain ⟨h1, h2⟩ := mem_take hj
    exact ⟨by simpa using h2, (row_mem hL h1).1⟩

theorem back_blk {alo ahi blo bhi : Nat} : ∀ f i j n, Blk a b alo ahi blo bhi i j n → Blk a b alo ahi blo bhi (backF a b alo blo f i j n).1 (backF a b alo blo f i j n).2.1 (backF a b alo blo f i j n).2.2
  | 0, i, j, n, h => h
  | f + 1, i, j, n, h => by
    unfold backF
    split
    · rename_i hc
      obtain ⟨h1, h2, h3, h4, h5⟩ := h
      refine back_blk f _ _ _ ⟨by omega, by omega, by omega, by omega, fun t ht => ?_⟩
      match t with
      | 0 => exact hc.2.2
      | t + 1 =>
        have := h5 t (by omega)
        rw [show i - 1 + (t + 1) = i + t by omega, show j - 1 + (t + 1) = j + t by omega]
        exact this
    · exact h
theorem fore_blk {alo ahi blo bhi i j : Nat} : ∀ f n, Blk a b alo ahi blo bhi i j n → Blk a b alo ahi blo bhi i j (foreF a b ahi bhi i j f n)
  | 0, n, h => h
  | f + 1, n, h => by
    unfold foreF
    split
    · rename_i hc
      obtain ⟨h1, h2, h3, h4, h5⟩ := h
      refine fore_blk f _ ⟨by omega, by omega, by omega, by omega, fun t ht => ?_⟩
      rcases Nat.lt_or_ge t n with h6 | h6
      · exact h5 t h6
      · obtain rfl : t = n := by omega
        exact hc.2.2
    · exact h
/-- The longest match is a block, whatever is left out. -/
theorem flm_blk {L : α → List Nat} (hL : ∀ v j, j ∈ L v → b[j]? = some v) {alo ahi blo bhi : Nat} (ha : alo ≤ ahi) (hb : blo ≤ bhi) :
    Blk a b alo ahi blo bhi (flm a b L alo ahi blo bhi).1 (flm a b L alo ahi blo bhi).2.1 (flm a b L alo ahi blo bhi).2.2 := by
  have hs := outRun_sound (a := a) hL alo blo bhi (ahi - alo)
  unfold flm
  simp only
  refine fore_blk _ _ (back_blk _ _ _ _ ?_)
  rcases Nat.eq_zero_or_pos (outRun a L alo blo bhi (ahi - alo)).n with h | h
  · obtain ⟨e1, e2⟩ := hs.z h
    rw [h, e1, e2]
    exact ⟨by omega, by omega, by omega, by omega, fun t ht => by omega⟩
  · exact (hs.p h).more (by omega)

/-- The longest one, the first of several. -/
def Best (a b : List α) (alo ahi blo bhi i j n : Nat) : Prop :=
  (n = 0 → i = alo ∧ j = blo) ∧ (0 < n → Blk a b alo ahi blo bhi i j n) ∧ ∀ x y k, Blk a b alo ahi blo bhi x y k → k ≤ n ∧ (k = n → 0 < n → i < x ∨ (i = x ∧ j ≤ y))
theorem best_one {alo ahi blo bhi i j n i' j' n' : Nat} (h : Best a b alo ahi blo bhi i j n) (h' : Best a b alo ahi blo bhi i' j' n') : i = i' ∧ j = j' ∧ n = n' := by
  obtain ⟨z, p, q⟩ := h
  obtain ⟨z', p', q'⟩ := h'
  rcases Nat.eq_zero_or_pos n with h0 | h0
  · rcases Nat.eq_zero_or_pos n' with h0' | h0'
    · have := z h0; have := z' h0'; omega
    · have := q _ _ _ (p' h0'); omega
  · rcases Nat.eq_zero_or_pos n' with h0' | h0'
    · have := q' _ _ _ (p h0); omega
    · have h1 := q _ _ _ (p' h0')
      have h2 := q' _ _ _ (p h0)
      have := h1.2 (by omega) h0
      have := h2.2 (by omega) h0'
      omega
/-- With all places of each element: lengths are exact; the best is the one that ends first. -/
structure Exact (a b : List α) (alo blo bhi i : Nat) (js : List Nat) (s : FS) : Prop where
  all : ∀ i' j', i' ≤ i ∨ (i' = i + 1 ∧ 0 < j' ∧ blo + j' - 1 ∈ js) → blo + j' ≤ bhi → rl a b alo blo i' j' ≤ s.n ∧ (rl a b alo blo i' j' = s.n → 0 < s.n → s.i + s.n < alo + i' ∨ (s.i + s.n = alo + i' ∧ s.j + s.n ≤ blo + j'))
  own : 0 < s.n → s.i + s.n ≤ alo + i ∨ (s.i + s.n = alo + i + 1 ∧ ∃ j ∈ js, s.j + s.n = j + 1)
theorem inFold_exact {alo blo bhi i : Nat} {old : Nat → Nat} (ho : ∀ t, blo ≤ t → t ≤ bhi → old t = rl a b alo blo i (t - blo)) : ∀ (js : List Nat) (don : List Nat) (s : FS), (∀ j ∈ js, j < bhi ∧ a[alo + i]? = b[j]?) → (∀ d ∈ don, ∀ j ∈ js, d < j) → js.Pairwise (· < ·) →
    Exact a b alo blo bhi i don s → Exact a b alo blo bhi i (don ++ js) (inFold (alo + i) blo old js s)
  | [], don, s, _, _, _, h => by rw [List.append_nil]; exact h
  | j :: js, don, s, hj, hd, hp, h => by
    obtain ⟨hj1, hj2⟩ := hj j (List.mem_cons_self ..)
    obtain ⟨hp1, hp2⟩ := List.pairwise_cons.1 hp
    rw [show don ++ j :: js = (don ++ [j]) ++ js by simp]
    refine inFold_exact ho js (don ++ [j]) (inStep (alo + i) blo old s j) (fun j' h' => hj j' (List.mem_cons_of_mem _ h')) ?_ hp2 ?_
    · intro d hdm j' hj'
      rcases List.mem_append.1 hdm with h1 | h1
      · exact hd d h1 j' (List.mem_cons_of_mem _ hj')
      · simp at h1; subst h1; exact hp1 j' hj'
    · unfold inStep
      split
      · rename_i hb
        refine ⟨fun i' j' hd' hb' => h.all i' j' ?_ hb', fun h0 => ?_⟩
        · rcases hd' with h1 | ⟨h1, h2, h3⟩
          · exact .inl h1
          · refine .inr ⟨h1, h2, ?_⟩
            rcases List.mem_append.1 h3 with h4 | h4
            · exact h4
            · simp at h4; omega
        · rcases h.own h0 with h1 | ⟨h1, d, h2, h3⟩
          · exact .inl h1
          · exact .inr ⟨h1, d, List.mem_append_left _ h2, h3⟩
      · rename_i hb
        have hrl : rl a b alo blo (i + 1) (j + 1 - blo) = old j + 1 := by
          rw [show j + 1 - blo = (j - blo) + 1 by omega, ho j (by omega) (by omega)]
          conv => lhs; unfold rl
          rw [if_pos (by rw [show blo + (j - blo) = j by omega]; exact hj2)]
        have hle := rl_le a b alo blo (i + 1) (j + 1 - blo)
        split
        · rename_i hn
          refine ⟨fun i' j' hd' hb' => ?_, fun _ => .inr ⟨by simp; omega, j, by simp, by simp; omega⟩⟩
          simp only
          rcases hd' with h1 | ⟨h1, h2, h3⟩
          · have := (h.all i' j' (.inl h1) hb').1
            exact ⟨by omega, fun h4 => by omega⟩
          · rcases List.mem_append.1 h3 with h4 | h4
            · have := (h.all i' j' (.inr ⟨h1, h2, h4⟩) hb').1
              exact ⟨by omega, fun h4 => by omega⟩
            · simp at h4
              have : j' = j + 1 - blo := by omega
              rw [h1, this, hrl]
              exact ⟨Nat.le_refl _, fun _ _ => by omega⟩
        · rename_i hn
          refine ⟨fun i' j' hd' hb' => ?_, fun h0 => ?_⟩
          · simp only
            rcases hd' with h1 | ⟨h1, h2, h3⟩
            · exact h.all i' j' (.inl h1) hb'
            · rcases List.mem_append.1 h3 with h4 | h4
              · exact h.all i' j' (.inr ⟨h1, h2, h4⟩) hb'
              · simp at h4
                have : j' = j + 1 - blo := by omega
                rw [h1, this, hrl]
                refine ⟨by omega, fun _ h0 => ?_⟩
                rcases h.own h0 with h5 | ⟨h5, d, h6, h7⟩
                · omega
                · have := hd d h6 j (List.mem_cons_self ..)
                  omega
          · rcases h.own h0 with h1 | ⟨h1, d, h2, h3⟩
            · exact .inl h1
            · exact .inr ⟨h1, d, List.mem_append_left _ h2, h3⟩
theorem inFold_m {blo x : Nat} {old : Nat → Nat} : ∀ (js : List Nat) (s : FS) (t : Nat), (inFold x blo old js s).m t = if blo < t ∧ t - 1 ∈ js then old (t - 1) + 1 else s.m t
  | [], s, t => by rw [if_neg (by simp)]; rfl
  | j :: js, s, t => by
    show (inFold x blo old js (inStep x blo old s j)).m t = _
    rw [inFold_m js]
    by_cases h : blo < t ∧ t - 1 ∈ js
    · rw [if_pos h, if_pos ⟨h.1, List.mem_cons_of_mem _ h.2⟩]
    · rw [if_neg h]
      have hm : (inStep x blo old s j).m t = if blo ≤ j ∧ t = j + 1 then old j + 1 else s.m t := by
        unfold inStep upd
        split
        · rw [if_neg (by omega)]
        · split
          · simp only; by_cases h1 : t = j + 1
            · rw [if_pos h1, if_pos (by omega)]
            · rw [if_neg h1, if_neg (by omega)]
          · simp only; by_cases h1 : t = j + 1
            · rw [if_pos h1, if_pos (by omega)]
            · rw [if_neg h1, if_neg (by omega)]
      rw [hm]
      by_cases h2 : blo ≤ j ∧ t = j + 1
      · rw [if_pos h2, if_pos ⟨by omega, by rw [h2.2]; simp⟩, h2.2]; rfl
      · rw [if_neg h2, if_neg]
        rintro ⟨h3, h4⟩
        rcases List.mem_cons.1 h4 with h5 | h5
        · exact h2 ⟨by omega, by omega⟩
        · exact h ⟨h3, h5⟩
theorem take_mem {c : Nat} : ∀ {l : List Nat}, l.Pairwise (· < ·) → ∀ {j : Nat}, j ∈ l → j < c → j ∈ l.takeWhile fun j => decide (j < c)
  | [], _, j, h, _ => by cases h
  | x :: l, hp, j, h, hc => by
    obtain ⟨h1, h2⟩ := List.pairwise_cons.1 hp
    rw [List.takeWhile_cons]
    rcases List.mem_cons.1 h with rfl | h
    · rw [if_pos (by simpa using hc)]; exact List.mem_cons_self ..
    · have := h1 j h
      rw [if_pos (by simp; omega)]
      exact List.mem_cons_of_mem _ (take_mem h2 h hc)
theorem take_sorted {p : Nat → Bool} {l : List Nat} (h : l.Pairwise (· < ·)) : (l.takeWhile p).Pairwise (· < ·) := h.sublist (List.takeWhile_sublist _)
theorem outRun_exact {L : α → List Nat} (hL : ∀ v, L v = idxL b v) (alo ahi blo bhi : Nat) (hah : ahi ≤ a.length) (hbb : blo ≤ bhi) (hbh : bhi ≤ b.length) : ∀ i, alo + i ≤ ahi →
    (∀ t, blo ≤ t → t ≤ bhi → (outRun a L alo blo bhi i).m t = rl a b alo blo i (t - blo)) ∧ Exact a b alo blo bhi i [] (outRun a L alo blo bhi i)
  | 0, _ => ⟨fun t _ _ => by simp [outRun, rl], ⟨fun i' j' h _ => by
      have : i' = 0 := by rcases h with h | ⟨_, _, h⟩ <;> simp at h; exact h
      subst this
      simp [outRun, rl], fun h => absurd h (by simp [outRun])⟩⟩
  | i + 1, hi => by
    obtain ⟨ih1, ih2⟩ := outRun_exact hL alo ahi blo bhi hah hbb hbh i (by omega)
    have hx : a[alo + i]? = some a[alo + i] := List.getElem?_eq_getElem (by omega)
    have hrow : rowOf a L (alo + i) = idxL b a[alo + i] := by unfold rowOf; rw [hx]; exact hL _
    have hsrt := idx_sorted b a[alo + i]
    have hjs : ∀ j ∈ (idxL b a[alo + i]).takeWhile (fun j => decide (j < bhi)), j < bhi ∧ a[alo + i]? = b[j]? := fun j hj => by
      obtain ⟨h1, h2⟩ := mem_take hj
      exact ⟨by simpa using h2, by rw [hx, (mem_idx b).1 h1]⟩
    have hnot : ∀ j', 0 < j' → blo + j' ≤ bhi → blo + j' - 1 ∉ (idxL b a[alo + i]).takeWhile (fun j => decide (j < bhi)) → rl a b alo blo (i + 1) j' = 0 := by
      intro j' h1 h2 h3
      obtain ⟨j', rfl⟩ : ∃ k, j' = k + 1 := ⟨j' - 1, by omega⟩
      unfold rl
      rw [if_neg]
      intro he
      rw [hx] at he
      exact h3 (take_mem hsrt ((mem_idx b).2 (by rw [show blo + (j' + 1) - 1 = blo + j' by omega]; exact he.symm)) (by omega))
    unfold outRun outStep inRun
    rw [hrow]
    generalize hJ : (idxL b a[alo + i]).takeWhile (fun j => decide (j < bhi)) = J at *
    have hJs : J.Pairwise (· < ·) := by rw [← hJ]; exact take_sorted hsrt
    have hE : Exact a b alo blo bhi i [] ⟨(outRun a L alo blo bhi i).i, (outRun a L alo blo bhi i).j, (outRun a L alo blo bhi i).n, fun _ => 0⟩ := ⟨ih2.all, ih2.own⟩
    have hF := inFold_exact ih1 J [] _ hjs (by simp) hJs hE
    rw [List.nil_append] at hF
    refine ⟨fun t h1 h2 => ?_, ⟨fun i' j' h hb' => ?_, fun h0 => ?_⟩⟩
    · rw [inFold_m]
      by_cases h3 : blo < t ∧ t - 1 ∈ J
      · rw [if_pos h3, ih1 _ (by omega) (by omega), show t - blo = (t - 1 - blo) + 1 by omega]
        conv => rhs; unfold rl
        rw [if_pos]
        rw [show blo + (t - 1 - blo) = t - 1 by omega]
        exact (hjs _ h3.2).2
      · rw [if_neg h3]
        rcases Nat.lt_or_ge blo t with h4 | h4
        · exact (hnot (t - blo) (by omega) (by omega) (by rw [show blo + (t - blo) - 1 = t - 1 by omega]; exact fun h => h3 ⟨h4, h⟩)).symm
        · rw [show t - blo = 0 by omega]; rfl
    · have h1 : i' ≤ i + 1 := by
        rcases h with h | ⟨_, _, h⟩
        · exact h
        · cases h
      rcases Nat.lt_or_ge i i' with h2 | h2
      · obtain rfl : i' = i + 1 := by omega
        by_cases h3 : 0 < j' ∧ blo + j' - 1 ∈ J
        · exact hF.all _ _ (.inr ⟨rfl, h3.1, h3.2⟩) hb'
        · have h4 : rl a b alo blo (i + 1) j' = 0 := by
            rcases Nat.eq_zero_or_pos j' with h5 | h5
            · rw [h5]; rfl
            · exact hnot j' h5 hb' (fun h6 => h3 ⟨h5, h6⟩)
          rw [h4]
          exact ⟨Nat.zero_le _, fun h5 h6 => by omega⟩
      · exact hF.all _ _ (.inl h2) hb'
    · rcases hF.own h0 with h1 | ⟨h1, _⟩
      · exact .inl (by omega)
      · exact .inl (by omega)
theorem outRun_best {L : α → List Nat} (hL : ∀ v, L v = idxL b v) (alo ahi blo bhi : Nat) (haa : alo ≤ ahi) (hah : ahi ≤ a.length) (hbb : blo ≤ bhi) (hbh : bhi ≤ b.length) :
    Best a b alo ahi blo bhi (outRun a L alo blo bhi (ahi - alo)).i (outRun a L alo blo bhi (ahi - alo)).j (outRun a L alo blo bhi (ahi - alo)).n := by
  have hs := outRun_sound (a := a) (b := b) (L := L) (fun v j h => by rw [hL] at h; exact (mem_idx b).1 h) alo blo bhi (ahi - alo)
  obtain ⟨_, he⟩ := outRun_exact hL alo ahi blo bhi hah hbb hbh (ahi - alo) (by omega)
  refine ⟨hs.z, fun h => (hs.p h).more (by omega), fun x y k hk => ?_⟩
  obtain ⟨h1, h2, h3, h4, h5⟩ := hk
  have hm := rl_max a b alo blo (x + k - alo) (y + k - blo) k (by omega) (by omega) (fun t ht => by
    have := h5 (k - 1 - t) (by omega)
    rw [show x + (k - 1 - t) = alo + (x + k - alo) - 1 - t by omega, show y + (k - 1 - t) = blo + (y + k - blo) - 1 - t by omega] at this
    exact this)
  obtain ⟨g1, g2⟩ := he.all (x + k - alo) (y + k - blo) (.inl (by omega)) (by omega)
  refine ⟨by omega, fun hkn h0 => ?_⟩
  have := g2 (by omega) h0
  omega
theorem back_best {alo ahi blo bhi i j n : Nat} (h : Best a b alo ahi blo bhi i j n) (ha : alo ≤ ahi) (f : Nat) : backF a b alo blo f i j n = (i, j, n) := by
  match f with
  | 0 => rfl
  | f + 1 =>
    unfold backF
    rw [if_neg]
    rintro ⟨h1, h2, h3⟩
    rcases Nat.eq_zero_or_pos n with h0 | h0
    · have := h.1 h0; omega
    · obtain ⟨g1, g2, g3, g4, g5⟩ := h.2.1 h0
      have := (h.2.2 (i - 1) (j - 1) (n + 1) ⟨by omega, by omega, by omega, by omega, fun t ht => by
        match t with
        | 0 => exact h3
        | t + 1 =>
          have := g5 t (by omega)
          rw [show i - 1 + (t + 1) = i + t by omega, show j - 1 + (t + 1) = j + t by omega]
          exact this⟩).1
      omega
theorem fore_best {alo ahi blo bhi i j n : Nat} (h : Best a b alo ahi blo bhi i j n) (f : Nat) : foreF a b ahi bhi i j f n = n := by
  match f with
  | 0 => rfl
  | f + 1 =>
    unfold foreF
    rw [if_neg]
    rintro ⟨h1, h2, h3⟩
    rcases Nat.eq_zero_or_pos n with h0 | h0
    · have hz := h.1 h0
      have := (h.2.2 i j 1 ⟨by omega, by omega, by omega, by omega, fun t ht => by
        obtain rfl : t = 0 := by omega
        rw [h0] at h3; exact h3⟩).1
      omega
    · obtain ⟨g1, g2, g3, g4, g5⟩ := h.2.1 h0
      have := (h.2.2 i j (n + 1) ⟨by omega, by omega, by omega, by omega, fun t ht => by
        rcases Nat.lt_or_ge t n with h6 | h6
        · exact g5 t h6
        · obtain rfl : t = n := by omega
          exact h3⟩).1
      omega
/-- The longest match by the program is the longest one, the first of several. -/
theorem flm_best {L : α → List Nat} (hL : ∀ v, L v = idxL b v) {alo ahi blo bhi : Nat} (haa : alo ≤ ahi) (hah : ahi ≤ a.length) (hbb : blo ≤ bhi) (hbh : bhi ≤ b.length) :
    Best a b alo ahi blo bhi (flm a b L alo ahi blo bhi).1 (flm a b L alo ahi blo bhi).2.1 (flm a b L alo ahi blo bhi).2.2 := by
  have h := outRun_best (a := a) hL alo ahi blo bhi haa hah hbb hbh
  unfold flm
  simp only
  rw [back_best h haa, fore_best h]
  exact h
end
end Go.Proofs.YtkbppaddghfgpaaDoor
