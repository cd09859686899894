/- BucketWhole: whole numbers from 1 on, as floats. -/
import Derived.Test.YteibgcmpkgilfaaReb2
set_option linter.unusedVariables false
set_option linter.unusedSimpArgs false
namespace Go.Proofs.Yteibgcmpkgilfaa
open Go.RowKit Go.WideShapes

abbrev RdI := RdC (Value.int .i64)

def wk (x : Int) : Int := if x.tmod 1000 < 0 then -(x.tmod 1000) else x.tmod 1000
theorem tmod_bd (x m : Int) (hm : 0 < m) : -m < x.tmod m ∧ x.tmod m < m := by
  rcases Int.le_total 0 x with h | h
  · rw [Int.tmod_eq_emod_of_nonneg h]
    have := Int.emod_nonneg x (by omega : m ≠ 0)
    have := Int.emod_lt_of_pos x hm
    omega
  · have e : x.tmod m = -((-x).tmod m) := by rw [Int.neg_tmod, Int.neg_neg]
    rw [e, Int.tmod_eq_emod_of_nonneg (by omega)]
    have := Int.emod_nonneg (-x) (by omega : m ≠ 0)
    have := Int.emod_lt_of_pos (-x) hm
    omega
theorem wk_bd (x : Int) : 0 ≤ wk x ∧ wk x ≤ 999 := by
  have := tmod_bd x 1000 (by omega)
  unfold wk; split <;> omega
def whStep (s : List Int × Int) (x : Int) : List Int × Int := (s.1 ++ [s.2 + 1 + wk x], s.2 + 1 + wk x)
def whF (l : List Int) : List Int × Int := l.foldl whStep ([], 0)
theorem whF_snoc (l : List Int) (x : Int) : whF (l ++ [x]) = whStep (whF l) x := by simp [whF]
theorem whF_bd (l : List Int) : 0 ≤ (whF l).2 ∧ (whF l).2 ≤ 1000 * l.length ∧ (whF l).1.length = l.length ∧ ∀ x ∈ (whF l).1, 1 ≤ x ∧ x ≤ 1000 * l.length := by
  have key : ∀ (l : List Int) (s : List Int × Int) (n : Nat), 0 ≤ s.2 ∧ s.2 ≤ 1000 * n ∧ s.1.length = n ∧ (∀ x ∈ s.1, 1 ≤ x ∧ x ≤ 1000 * n) →
      0 ≤ (l.foldl whStep s).2 ∧ (l.foldl whStep s).2 ≤ 1000 * (n + l.length : Nat) ∧ (l.foldl whStep s).1.length = n + l.length ∧ ∀ x ∈ (l.foldl whStep s).1, 1 ≤ x ∧ x ≤ 1000 * (n + l.length : Nat) := by
    intro l
    induction l with
    | nil => intro s n h; simpa using h
    | cons x r ih =>
      intro s n ⟨h1, h2, h3, h4⟩
      have hw := wk_bd x
      have h5 := ih (whStep s x) (n + 1) ⟨by simp only [whStep]; omega, by simp only [whStep]; omega, by simp [whStep, h3], by
        intro y hy
        simp only [whStep, List.mem_append, List.mem_singleton] at hy
        rcases hy with hy | hy
        · have := h4 y hy; omega
        · omega⟩
      rw [List.foldl_cons, List.length_cons, show n + (r.length + 1) = n + 1 + r.length by omega]
      exact h5
  have h := key l ([], 0) 0 ⟨by simp, by simp, rfl, by simp⟩
  rw [Nat.zero_add] at h
  exact h
def whole (l : List Int) : List Nat := (whF (l.take 1000)).1.map (floatOfInt .f64)
theorem whole_fp (l : List Int) : ∀ x ∈ whole l, FP x := by
  intro x hx
  obtain ⟨n, hn, rfl⟩ := List.mem_map.1 hx
  obtain ⟨_, _, _, h⟩ := whF_bd (l.take 1000)
  have h2 := h n hn
  have h3 : (l.take 1000).length ≤ 1000 := List.length_take_le _ _
  exact int_fp h2.1 (by omega)
theorem whole_len (l : List Int) : (whole l).length ≤ 1000 := by
  unfold whole
  rw [List.length_map, (whF_bd _).2.2.1]
  exact List.length_take_le _ _
theorem take_snocI (xs : List Int) (k : Nat) (h : k < xs.length) : xs.take (k + 1) = xs.take k ++ [xs[k]] := List.take_succ_eq_append_getElem h

set_option maxHeartbeats 1600000 in
set_option maxRecDepth 100000 in
theorem whole_any (v : Value) (xs : List Int) (w : World) (hv : RdI w v xs) :
    Calls Try.prog 8 #[v] w fun e w' => ∃ v', e = .returned v' ∧ w'.ownsRow w.heap.size 25 1 v' (whole xs).length ((whole xs).map (Value.float .f64)) ∧ Below w.heap.size w w' := by
  obtain ⟨i0, hi, hz0, hz1, hz2⟩ := info_parts info_f64
  obtain ⟨a, cap, b, off, rfl, hl, hm, ha, hc⟩ := hv
  unfold maxLen at hm
  go_enter Try.func8, Try.ntmps8
  go_wp2
  go_loopw [3, 4, 5] (fun v tv i wr => ∃ k : Nat, k ≤ xs.length ∧ k ≤ 1000 ∧ i = .int .i64 k ∧ tv = .int .i64 (whF (xs.take k)).2 ∧ wr.ownsRow w.heap.size 25 1 v (whF (xs.take k)).1.length (((whF (xs.take k)).1.map (floatOfInt .f64)).map (Value.float .f64)) ∧ Below w.heap.size w wr) (fun _ _ i _ => xs.length - (intOf i).toNat)
  case atStart => exact ⟨0, Nat.zero_le _, Nat.zero_le _, rfl, rfl, World.ownsRow_nil _ _ _ _, Below.refl _ _⟩
  case round =>
    obtain ⟨k, hk, hk2, rfl, rfl, hown, hb⟩ := hrel
    have htl : (xs.take k).length = k := by rw [List.length_take]; omega
    obtain ⟨b1, b2, b3, b4⟩ := whF_bd (xs.take k)
    rw [htl] at b2 b3
    clear b4
    by_cases hlt : k < xs.length
    · by_cases hlt2 : k < 1000
      · obtain rfl : a = some ⟨b, off, none⟩ := ha.resolve_left (by intro h; simp [h] at hlt)
        have hcx := RdC.at hc hb hlt
        have hts := Lib.hid (take_snocI xs k hlt)
        generalize xs[k] = x at *
        have HN := Lib.hid (show whF (xs.take (k + 1)) = whStep (whF (xs.take k)) x by rw [hts.out, whF_snoc])
        have hwb := wk_bd x
        have htm := tmod_bd x 1000 (by omega)
        have HW : Hid (wk x = if x.tmod 1000 < 0 then -(x.tmod 1000) else x.tmod 1000) := rfl
        generalize hst : whF (xs.take k) = st at *
        obtain ⟨acc, t⟩ := st
        simp only at b1 b2 b3 hown
        rw [b3] at hown
        have HL := Lib.hid b3
        clear hst b3 htl
        have hB3 : k + 1 ≤ maxLen := by unfold maxLen; omega
        have hB4 : (k + 1) * 8 ≤ 140737488355328 := by omega
        by_cases hneg : x.tmod 1000 < 0
        · have HV := Lib.hid (show wk x = -(x.tmod 1000) by rw [HW.out, if_pos hneg])
          go_wp2_with (at_builtin; go_must (refine wpList_append_own _ rfl _ _ 23 rfl w.heap.size 25 i0 (.float .f64 0) 1 8 Try.underlying23 hi hz0 hz1 hz2 rfl (by decide) _ _ _ rfl (hown.alloc _) ⟨wr.heap.size, 0, none⟩ 1 1 [.float .f64 (floatOfInt .f64 (t + (1 + -x.tmod 1000)))] rfl rfl (cell_one_new _ _ _) (one_float _ _) hB3 hB4 (Nat.le_trans hb.size (size_alloc_le _ _)) ?_))
          intro v' w2 hown' hgrow _
          have hb2 := (hb.alloc hb.size (.cells #[.float .f64 (floatOfInt .f64 (t + (1 + -x.tmod 1000)))] 25)).grown hgrow (Nat.le_trans hb.size (size_alloc_le _ _)) (fun k hk => (hown.lt k hk).1)
          go_wp2_with fail
          go_roundw
          case rel =>
            have e1 : whStep (acc, t) x = (acc ++ [t + (1 + -x.tmod 1000)], t + (1 + -x.tmod 1000)) := by unfold whStep; rw [show t + 1 + wk x = t + (1 + -x.tmod 1000) by rw [HV.out]; omega]
            refine ⟨k + 1, by omega, by omega, by go_num, ?_, ?_, hb2⟩
            · rw [HN.out, e1]
            · rw [HN.out, e1, List.length_append, HL.out]; simpa using hown'
          case measure => simp [intOf]; omega
        · have HV := Lib.hid (show wk x = x.tmod 1000 by rw [HW.out, if_neg hneg])
          go_wp2_with (at_builtin; go_must (refine wpList_append_own _ rfl _ _ 23 rfl w.heap.size 25 i0 (.float .f64 0) 1 8 Try.underlying23 hi hz0 hz1 hz2 rfl (by decide) _ _ _ rfl (hown.alloc _) ⟨wr.heap.size, 0, none⟩ 1 1 [.float .f64 (floatOfInt .f64 (t + (1 + x.tmod 1000)))] rfl rfl (cell_one_new _ _ _) (one_float _ _) hB3 hB4 (Nat.le_trans hb.size (size_alloc_le _ _)) ?_))
          intro v' w2 hown' hgrow _
          have hb2 := (hb.alloc hb.size (.cells #[.float .f64 (floatOfInt .f64 (t + (1 + x.tmod 1000)))] 25)).grown hgrow (Nat.le_trans hb.size (size_alloc_le _ _)) (fun k hk => (hown.lt k hk).1)
          go_wp2_with fail
          go_roundw
          case rel =>
            have e1 : whStep (acc, t) x = (acc ++ [t + (1 + x.tmod 1000)], t + (1 + x.tmod 1000)) := by unfold whStep; rw [show t + 1 + wk x = t + (1 + x.tmod 1000) by rw [HV.out]; omega]
            refine ⟨k + 1, by omega, by omega, by go_num, ?_, ?_, hb2⟩
            · rw [HN.out, e1]
            · rw [HN.out, e1, List.length_append, HL.out]; simpa using hown'
          case measure => simp [intOf]; omega
      · go_wp2_with fail
        go_ret
        refine ⟨_, rfl, ?_, hb⟩
        obtain rfl : k = 1000 := by omega
        rw [show (whole xs).length = (whF (xs.take 1000)).1.length by simp [whole]]
        exact hown
    · go_wp2_with fail
      go_ret
      refine ⟨_, rfl, ?_, hb⟩
      have e : xs.take k = xs.take 1000 := by rw [List.take_of_length_le (by omega), List.take_of_length_le (by omega)]
      rw [e] at hown
      rw [show (whole xs).length = (whF (xs.take 1000)).1.length by simp [whole]]
      exact hown
end Go.Proofs.Yteibgcmpkgilfaa
