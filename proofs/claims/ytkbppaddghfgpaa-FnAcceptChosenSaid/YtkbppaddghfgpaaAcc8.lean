/- AcceptLine: the line of entries. -/
import Derived.Test.YtkbppaddghfgpaaAcc7
set_option linter.unusedVariables false
set_option linter.unusedSimpArgs false
namespace Go.Proofs.Ytkbppaddghfgpaa
open Go.RowKit

def ent (x : Ent) : List UInt8 := x.1.data.toList ++ (if x.2.size = 0 then [] else [59, 113, 61] ++ x.2.data.toList)
def lineL (g : List UInt8) : List Ent → List UInt8
  | [] => []
  | [x] => ent x
  | x :: y :: r => ent x ++ (44 :: g ++ lineL g (y :: r))
theorem line_snoc (g : List UInt8) (x : Ent) : ∀ xs : List Ent, lineL g (xs ++ [x]) = lineL g xs ++ (if xs.length = 0 then [] else 44 :: g) ++ ent x
  | [] => by simp [lineL]
  | [y] => by simp [lineL]
  | y :: z :: r => by
    have ih := line_snoc g x (z :: r)
    simp only [List.cons_append, lineL] at ih ⊢
    rw [ih]
    simp
theorem ent_len {x : Ent} (h : EntOk x) (hs : Small x) : (ent x).length ≤ 2147483655 := by
  unfold ent
  have h1 := hs.1
  rw [List.length_append, data_len]
  split
  · simp; omega
  · rename_i hd
    have := (h.2 hd).len
    simp only [List.length_append, List.length_cons, List.length_nil]
    omega
theorem line_len (g : List UInt8) (hg : g.length ≤ 1) : ∀ xs : List Ent, (∀ x ∈ xs, EntOk x) → (∀ x ∈ xs, Small x) → (lineL g xs).length ≤ xs.length * 2147483657
  | [], _, _ => Nat.le_refl _
  | [x], h, hs => by
    have := ent_len (h x (by simp)) (hs x (by simp))
    simp only [lineL, List.length_cons, List.length_nil]; omega
  | x :: y :: r, h, hs => by
    have h1 := ent_len (h x (by simp)) (hs x (by simp))
    have ih := line_len g hg (y :: r) (fun z hz => h z (by simp at hz ⊢; exact .inr hz)) (fun z hz => hs z (by simp at hz ⊢; exact .inr hz))
    simp only [lineL, List.length_append, List.length_cons] at ih ⊢
    omega
theorem line_take_len {g : List UInt8} (hg : g.length ≤ 1) {xs : List Ent} (h : ∀ x ∈ xs, EntOk x) (hs : ∀ x ∈ xs, Small x) (hl : xs.length ≤ 2147483647) (k : Nat) (hk : k ≤ xs.length) : (lineL g (xs.take k)).length ≤ k * 2147483657 := by
  have := line_len g hg (xs.take k) (fun x hx => h x (List.mem_of_mem_take hx)) (fun x hx => hs x (List.mem_of_mem_take hx))
  rw [List.length_take, Nat.min_eq_left hk] at this
  exact this

set_option maxHeartbeats 1600000 in
set_option maxRecDepth 100000 in
theorem accLine (v : Value) (xs : List Ent) (g : ByteArray) (w : World) (hv : RdE w v xs) (hl : xs.length ≤ 2147483647) (hg : g.size ≤ 1) (hok : ∀ x ∈ xs, EntOk x) (hsz : ∀ x ∈ xs, Small x) :
    Calls Try.prog 34 #[v, .string g] w fun e w' => e = .returned (.string ⟨(lineL g.data.toList xs).toArray⟩) ∧ w' = w := by
  have hg1 : g.data.toList.length ≤ 1 := by rw [data_len]; exact hg
  have HB := Lib.hid (line_take_len hg1 hok hsz hl)
  have HSZ := Lib.hid hsz
  have HOK := Lib.hid hok
  clear hsz hok hg1
  obtain ⟨a, cap, b, off, rfl, hcap, hmx, ha, hc⟩ := hv
  unfold maxLen at hmx
  go_enter Try.func34, Try.ntmps34
  go_wp2_with fail
  go_loop [5, 6] (fun tv iv => ∃ (k : Nat) (t : ByteArray), k ≤ xs.length ∧ iv = .int .i64 k ∧ tv = .string t ∧ t.data.toList = lineL g.data.toList (xs.take k)) (fun _ iv => xs.length - (intOf iv).toNat)
  case atStart => exact ⟨0, _, Nat.zero_le _, rfl, rfl, rfl⟩
  case round =>
    obtain ⟨k, t, hk, rfl, rfl, ht⟩ := hrel
    have hts : t.size ≤ k * 2147483657 := by rw [← data_len, ht]; exact HB.out k hk
    have HT := Lib.hid ht
    clear ht
    by_cases hlt : k < xs.length
    · obtain rfl : a = some ⟨b, off, none⟩ := by
        rcases ha with h | h
        · rw [h] at hlt; exact absurd hlt (Nat.not_lt_zero _)
        · exact h
      obtain ⟨c1, c2⟩ := hc k xs[k] (List.getElem?_eq_getElem hlt)
      have hm1 := HSZ.out xs[k] (List.getElem_mem _)
      have hm2 := HOK.out xs[k] (List.getElem_mem _)
      have HN := Lib.hid (show lineL g.data.toList (xs.take (k + 1)) = lineL g.data.toList (xs.take k) ++ (if (xs.take k).length = 0 then [] else 44 :: g.data.toList) ++ ent xs[k] by
        rw [List.take_succ_eq_append_getElem hlt, line_snoc])
      rw [List.length_take, Nat.min_eq_left hk] at HN
      clear hc
      generalize hy : xs[k] = y at *
      clear hy
      obtain ⟨va, d⟩ := y
      obtain ⟨hm1, hm3⟩ := hm1
      simp only at hm1 hm3 c1 c2
      by_cases hd : d.size = 0
      · have hd1 := is_empty hd
        have HE : Hid (ent (va, d) = va.data.toList) := Lib.hid (by unfold ent; simp only; rw [if_pos hd, List.append_nil])
        clear hd hm2
        by_cases hk0 : k = 0
        · subst hk0
          simp only [Nat.zero_mul, Nat.add_zero] at c1 c2
          rw [if_pos rfl] at HN
          go_wp2_with fail
          go_round
          case rel =>
            refine ⟨1, _, by omega, by go_num, rfl, ?_⟩
            rw [HN.out, HE.out, ← HT.out]
            simp
          case measure => simp [intOf]; omega
        · have hk1 : 0 < k := by omega
          rw [if_neg hk0] at HN
          clear hk0
          go_wp2_with fail
          go_round
          case rel =>
            refine ⟨k + 1, _, by omega, by go_num, rfl, ?_⟩
            rw [HN.out, HE.out, ← HT.out]
            simp
          case measure => simp [intOf]; omega
      · have hd1 := not_empty hd
        have HE : Hid (ent (va, d) = va.data.toList ++ ([59, 113, 61] ++ d.data.toList)) := Lib.hid (by unfold ent; simp only; rw [if_neg hd])
        have hd5 : d.size ≤ 5 := by
          have := (hm2.2 hd).len
          rw [data_len] at this; simp only at this; omega
        clear hd hm2
        by_cases hk0 : k = 0
        · subst hk0
          simp only [Nat.zero_mul, Nat.add_zero] at c1 c2
          rw [if_pos rfl] at HN
          go_wp2_with fail
          go_round
          case rel =>
            refine ⟨1, _, by omega, by go_num, rfl, ?_⟩
            rw [HN.out, HE.out, ← HT.out]
            simp
          case measure => simp [intOf]; omega
        · have hk1 : 0 < k := by omega
          rw [if_neg hk0] at HN
          clear hk0
          go_wp2_with fail
          go_round
          case rel =>
            refine ⟨k + 1, _, by omega, by go_num, rfl, ?_⟩
            rw [HN.out, HE.out, ← HT.out]
            simp
          case measure => simp [intOf]; omega
    · rw [List.take_of_length_le (by omega)] at HT
      go_wp2_with fail
      go_ret
      refine ⟨?_, rfl⟩
      rw [← HT.out, Array.toArray_toList]
      rfl
end Go.Proofs.Ytkbppaddghfgpaa
