/- Slices of pairs; the size guards of the law. -/
import Derived.Test.YtkbppaddghfgpaaAcc5
set_option linter.unusedVariables false
set_option linter.unusedSimpArgs false
namespace Go.Proofs.Ytkbppaddghfgpaa
open Go.RowKit

/-- A slice of elements of two cells each. -/
def RdP {α : Type} (f g : α → Value) (w : World) (v : Value) (xs : List α) : Prop :=
  ∃ (a : Option Addr) (cap b off : Nat), v = .slice a xs.length cap ∧ xs.length ≤ cap ∧ cap ≤ maxLen ∧ (xs = [] ∨ a = some ⟨b, off, none⟩) ∧
    ∀ i x, xs[i]? = some x → w.cell? ⟨b, off + i * 2, none⟩ = some (f x) ∧ w.cell? ⟨b, off + i * 2 + 1, none⟩ = some (g x)
theorem RdP.below {α : Type} {f g : α → Value} {w w' : World} {v : Value} {xs : List α} (h : RdP f g w v xs) (hb : Below w.heap.size w w') : RdP f g w' v xs := by
  obtain ⟨a, cap, b, off, h1, h2, h3, h4, h5⟩ := h
  refine ⟨a, cap, b, off, h1, h2, h3, h4, fun i x hx => ?_⟩
  obtain ⟨c1, c2⟩ := h5 i x hx
  rw [hb.cell (p := ⟨b, off + i * 2, none⟩) (World.block_lt_of_cell? w _ c1), hb.cell (p := ⟨b, off + i * 2 + 1, none⟩) (World.block_lt_of_cell? w _ c2)]
  exact ⟨c1, c2⟩
theorem RdP.nil {α : Type} (f g : α → Value) (w : World) : RdP f g w (.slice none 0 0) [] := ⟨none, 0, 0, 0, rfl, Nat.le_refl _, Nat.zero_le _, .inl rfl, by simp⟩
def two {α : Type} (f g : α → Value) (xs : List α) : List Value := xs.flatMap fun x => [f x, g x]
theorem two_len {α : Type} (f g : α → Value) (xs : List α) : (two f g xs).length = xs.length * 2 := by
  induction xs with
  | nil => rfl
  | cons x r ih => simp [two] at ih ⊢; omega
theorem two_get {α : Type} (f g : α → Value) : ∀ (xs : List α) (i : Nat) (x : α), xs[i]? = some x → (two f g xs)[i * 2]? = some (f x) ∧ (two f g xs)[i * 2 + 1]? = some (g x)
  | y :: r, 0, x, h => by simp at h; subst h; exact ⟨rfl, rfl⟩
  | y :: r, i + 1, x, h => by
    have := two_get f g r i x (by simpa using h)
    rw [show (i + 1) * 2 = i * 2 + 2 by omega]
    exact this
theorem two_snoc {α : Type} (f g : α → Value) (xs : List α) (x : α) : two f g (xs ++ [x]) = two f g xs ++ [f x, g x] := by simp [two]
theorem RdP.of_owns {α : Type} {f g : α → Value} {w : World} {base : Nat} {e : TypeId} {v : Value} {n : Nat} {xs : List α} (h : w.ownsRow base e 2 v n (two f g xs)) : RdP f g w v xs := by
  obtain ⟨hl, h⟩ := h
  rw [two_len] at hl
  have hn : xs.length = n := by omega
  rcases h with ⟨rfl, rfl⟩ | ⟨q, cap, cur, rfl, hb, hg, hc, hm, hs, ht⟩
  · obtain rfl := List.eq_nil_of_length_eq_zero hn
    exact RdP.nil f g w
  · refine ⟨_, cap, q, 0, by rw [hn], by omega, hm, .inr rfl, fun i x hx => ?_⟩
    have hi : i < n := by rw [← hn]; exact (List.getElem?_eq_some_iff.1 hx).1
    obtain ⟨g1, g2⟩ := two_get f g xs i x hx
    rw [← ht, List.getElem?_take_of_lt (by omega), Array.getElem?_toList] at g1 g2
    rw [Lib.cell_of_heap hg, Lib.cell_of_heap hg, Nat.zero_add]
    exact ⟨g1, g2⟩
theorem RdP.shape {α : Type} {f g : α → Value} {w : World} {v : Value} {xs : List α} (h : RdP f g w v xs) : ∃ a cap, v = .slice a xs.length cap := by
  obtain ⟨a, cap, b, off, h1, _⟩ := h; exact ⟨a, cap, h1⟩
theorem RdP.ofG {α : Type} {f g : α → Value} {Q : α → Prop} {w : World} {v : Value} {xs : List α} (h : RdG 2 (fun _ cs x => cs = [f x, g x] ∧ Q x) w v xs) : RdP f g w v xs ∧ ∀ x ∈ xs, Q x := by
  obtain ⟨a, cap, b, off, h1, h2, h3, h4, h5⟩ := h
  refine ⟨⟨a, cap, b, off, h1, h2, h3, h4, fun i x hx => ?_⟩, fun x hx => ?_⟩
  · obtain ⟨cs, _, ⟨rfl, _⟩, hc⟩ := h5 i x hx
    exact ⟨hc 0 (f x) rfl, hc 1 (g x) rfl⟩
  · obtain ⟨i, hi⟩ := List.mem_iff_getElem?.1 hx
    obtain ⟨cs, _, ⟨_, hq⟩, _⟩ := h5 i x hi
    exact hq

abbrev Ent := ByteArray × ByteArray
def RdE (w : World) (v : Value) (xs : List Ent) : Prop := RdP (fun x => .string x.1) (fun x => .string x.2) w v xs
def Small (x : Ent) : Prop := x.1.size ≤ 2147483647 ∧ x.2.size ≤ 2147483647
/-- True only where Q holds. -/
def OnlyIf (Q : Prop) (e : Ending) : Prop := ∃ b, e = .returned (.bool b) ∧ (b = true → Q)

set_option maxHeartbeats 800000 in
set_option maxRecDepth 100000 in
theorem fits2 (x : Ent) (w : World) (h1 : x.1.size ≤ maxLen) (h2 : x.2.size ≤ maxLen) :
    Calls Try.prog 28 #[.agg #[.string x.1, .string x.2]] w fun e w' => OnlyIf (Small x) e ∧ Below w.heap.size w w' := by
  unfold maxLen at h1 h2
  obtain ⟨a, c⟩ := x
  simp only at h1 h2 ⊢
  by_cases s1 : a.size ≤ 2147483647
  · by_cases s2 : c.size ≤ 2147483647
    · go_enter Try.func28, Try.ntmps28
      go_wp2_with fail
      go_ret
      exact ⟨⟨_, rfl, fun _ => ⟨s1, s2⟩⟩, (Below.refl _ _).alloc (Nat.le_refl _) _⟩
    · go_enter Try.func28, Try.ntmps28
      go_wp2_with fail
      go_ret
      exact ⟨⟨_, rfl, fun h => by cases h⟩, (Below.refl _ _).alloc (Nat.le_refl _) _⟩
  · go_enter Try.func28, Try.ntmps28
    go_wp2_with fail
    go_ret
    exact ⟨⟨_, rfl, fun h => by cases h⟩, (Below.refl _ _).alloc (Nat.le_refl _) _⟩

set_option maxHeartbeats 800000 in
set_option maxRecDepth 100000 in
theorem fits1 (v : Value) (xs : List Ent) (w : World) (hv : RdE w v xs) (hsz : ∀ x ∈ xs, x.1.size ≤ maxLen ∧ x.2.size ≤ maxLen) :
    Calls Try.prog 8 #[v] w fun e w' => OnlyIf (xs.length ≤ 2147483647 ∧ ∀ x ∈ xs, Small x) e ∧ Below w.heap.size w w' := by
  have HSZ := Lib.hid hsz
  clear hsz
  by_cases hl : xs.length ≤ 2147483647
  · obtain ⟨a, cap, b, off, rfl, hcap, hmx, ha, hc⟩ := hv
    unfold maxLen at hmx
    go_enter Try.func8, Try.ntmps8
    go_wp2_with fail
    go_loopw [10] (fun i wr => ∃ k : Nat, k ≤ xs.length ∧ i = .int .i64 k ∧ (∀ x ∈ xs.take k, Small x) ∧ Below w.heap.size w wr) (fun i _ => xs.length - (intOf i).toNat)
    case atStart => exact ⟨0, Nat.zero_le _, rfl, by simp, Below.refl _ _⟩
    case round =>
      obtain ⟨k, hk, rfl, hall, hb⟩ := hrel
      have HALL := Lib.hid hall
      clear hall
      by_cases hlt : k < xs.length
      · obtain rfl : a = some ⟨b, off, none⟩ := by
          rcases ha with h | h
          · rw [h] at hlt; exact absurd hlt (Nat.not_lt_zero _)
          · exact h
        obtain ⟨c1, c2⟩ := hc k xs[k] (List.getElem?_eq_getElem hlt)
        have hm1 := HSZ.out xs[k] (List.getElem_mem _)
        have c1' : wr.cell? ⟨b, off + k * 2, none⟩ = some (.string xs[k].1) := (hb.cell (p := ⟨b, off + k * 2, none⟩) (World.block_lt_of_cell? w _ c1)).trans c1
        have c2' : wr.cell? ⟨b, off + k * 2 + 1, none⟩ = some (.string xs[k].2) := (hb.cell (p := ⟨b, off + k * 2 + 1, none⟩) (World.block_lt_of_cell? w _ c2)).trans c2
        have HN : Hid (∀ (q : Small xs[k]), ∀ x ∈ xs.take (k + 1), Small x) := Lib.hid (fun q x hx => by
          rw [List.take_succ_eq_append_getElem hlt] at hx
          rcases List.mem_append.1 hx with hx | hx
          · exact HALL.out x hx
          · simp only [List.mem_singleton] at hx; rw [hx]; exact q)
        clear c1 c2 hc
        generalize xs[k] = y at *
        go_wp2_with (go_at_call 28; go_must (refine (fits2 y _ hm1.1 hm1.2).mono ?_))
        rintro e w1 ⟨ok, rfl, hok⟩ hb1
        have HOK := Lib.hid hok
        clear hok
        cases ok with
        | true =>
          go_wp2_with fail
          go_roundw
          case rel => exact ⟨k + 1, by omega, by go_num, HN.out (HOK.out trivial), hb.trans (((Below.refl _ wr).alloc (Nat.le_refl _) _).trans (hb1.mono (by simp)) |>.mono hb.size)⟩
          case measure => simp [intOf]; omega
        | false =>
          go_wp2_with fail
          go_ret
          exact ⟨⟨_, rfl, fun h => by cases h⟩, hb.trans (((Below.refl _ wr).alloc (Nat.le_refl _) _).trans (hb1.mono (by simp)) |>.mono hb.size)⟩
      · rw [List.take_of_length_le (by omega)] at HALL
        go_wp2_with fail
        go_ret
        exact ⟨⟨_, rfl, fun _ => ⟨hl, HALL.out⟩⟩, hb⟩
  · obtain ⟨a, cap, b, off, rfl, hcap, hmx, ha, hc⟩ := hv
    unfold maxLen at hmx
    go_enter Try.func8, Try.ntmps8
    go_wp2_with fail
    go_ret
    exact ⟨⟨_, rfl, fun h => by cases h⟩, Below.refl _ _⟩

set_option maxHeartbeats 800000 in
set_option maxRecDepth 100000 in
theorem fits3 (v : Value) (xs : List ByteArray) (w : World) (hv : RdC Value.string w v xs) (hsz : ∀ x ∈ xs, x.size ≤ maxLen) :
    Calls Try.prog 9 #[v] w fun e w' => OnlyIf (xs.length ≤ 2147483647 ∧ ∀ x ∈ xs, x.size ≤ 2147483647) e ∧ w = w' := by
  have HSZ := Lib.hid hsz
  clear hsz
  by_cases hl : xs.length ≤ 2147483647
  · obtain ⟨a, cap, b, off, rfl, hcap, hmx, ha, hc⟩ := hv
    unfold maxLen at hmx
    go_enter Try.func9, Try.ntmps9
    go_wp2_with fail
    go_loop [10] (fun i => ∃ k : Nat, k ≤ xs.length ∧ i = .int .i64 k ∧ (∀ x ∈ xs.take k, x.size ≤ 2147483647)) (fun i => xs.length - (intOf i).toNat)
    case atStart => exact ⟨0, Nat.zero_le _, rfl, by simp⟩
    case round =>
      obtain ⟨k, hk, rfl, hall⟩ := hrel
      have HALL := Lib.hid hall
      clear hall
      by_cases hlt : k < xs.length
      · obtain rfl : a = some ⟨b, off, none⟩ := by
          rcases ha with h | h
          · rw [h] at hlt; exact absurd hlt (Nat.not_lt_zero _)
          · exact h
        have c1 := hc k xs[k] (List.getElem?_eq_getElem hlt)
        have hm1 := HSZ.out xs[k] (List.getElem_mem _)
        have HN : Hid (∀ (q : xs[k].size ≤ 2147483647), ∀ x ∈ xs.take (k + 1), x.size ≤ 2147483647) := Lib.hid (fun q x hx => by
          rw [List.take_succ_eq_append_getElem hlt] at hx
          rcases List.mem_append.1 hx with hx | hx
          · exact HALL.out x hx
          · simp only [List.mem_singleton] at hx; rw [hx]; exact q)
        unfold maxLen at hm1
        clear hc
        generalize xs[k] = y at *
        by_cases hy : y.size ≤ 2147483647
        · go_wp2_with fail
          go_round
          case rel => exact ⟨k + 1, by omega, by go_num, HN.out hy⟩
          case measure => simp [intOf]; omega
        · go_wp2_with fail
          go_ret
          exact ⟨⟨_, rfl, fun h => by cases h⟩, rfl⟩
      · rw [List.take_of_length_le (by omega)] at HALL
        go_wp2_with fail
        go_ret
        exact ⟨⟨_, rfl, fun _ => HALL.out⟩, rfl⟩
  · obtain ⟨a, cap, b, off, rfl, hcap, hmx, ha, hc⟩ := hv
    unfold maxLen at hmx
    go_enter Try.func9, Try.ntmps9
    go_wp2_with fail
    go_ret
    exact ⟨⟨_, rfl, fun h => by cases h⟩, rfl⟩
end Go.Proofs.Ytkbppaddghfgpaa
