/- RuntimeMetricsBucketsForUnit and UnitBuckets, at lists of positive numbers. -/
import Derived.Test.YteibgcmpkgilfaaReb4
import Derived.Laws.OwnMore
import Derived.Deep.AppendLies
set_option linter.unusedVariables false
set_option linter.unusedSimpArgs false
namespace Go.Proofs.Yteibgcmpkgilfaa
open Go.RowKit Go.WideShapes

def oneF : Nat := 4607182418800017408
def twoF : Nat := 4611686018427387904
def tenF : Nat := 4621819117588971520
def infF : Nat := 9218868437227405312
theorem ten_fp : FP 4621819117588971520 := read_mid (by omega) (by omega)
theorem one_fp : FP 4607182418800017408 := read_mid (by omega) (by omega)

def leB (x y : Nat) : Bool := Ieee.double.order x y == some .lt || Ieee.double.order x y == some .eq
/-- The first one above 1 becomes infinite, and the last. -/
def cutOne : List Nat → List Nat
  | [] => []
  | x :: r => if leB x 4607182418800017408 then x :: cutOne r else [9218868437227405312]

theorem cutOne_stop (l : List Nat) (k : Nat) (hk : k < l.length) (h : ∀ x ∈ l.take k, leB x 4607182418800017408 = true) (h2 : leB l[k] 4607182418800017408 = false) : cutOne l = l.take k ++ [9218868437227405312] := by
  induction l generalizing k with
  | nil => simp at hk
  | cons x r ih =>
    cases k with
    | zero => simp only [List.getElem_cons_zero] at h2; simp [cutOne, h2]
    | succ k =>
      have h3 : leB x 4607182418800017408 = true := h x (by simp)
      simp only [List.getElem_cons_succ] at h2
      have := ih k (by simpa using hk) (fun y hy => h y (by simp [hy])) h2
      simp [cutOne, h3, this]
theorem cutOne_all (l : List Nat) (h : ∀ x ∈ l, leB x 4607182418800017408 = true) : cutOne l = l := by
  induction l with
  | nil => rfl
  | cons x r ih => simp [cutOne, h x (by simp), ih (fun y hy => h y (by simp [hy]))]

theorem own_cut {w : World} {base : Nat} {e g n m cap : Nat} {xs : List Value} (h : w.ownsRow base e 1 (.slice (some ⟨g, 0, none⟩) n cap) n xs) (hm : m ≤ n) : w.ownsRow base e 1 (.slice (some ⟨g, 0, none⟩) m cap) m (xs.take m) := by
  obtain ⟨hl, h⟩ := h
  rcases h with ⟨h, _⟩ | ⟨g', cap', cur, hv, hb, hg, hc, hx, hs, ht⟩
  · cases h
  · cases hv
    refine ⟨by simp [hl]; omega, .inr ⟨g, cap, cur, rfl, hb, hg, by omega, hx, hs, ?_⟩⟩
    rw [← ht, List.take_take, Nat.mul_one, Nat.mul_one, Nat.min_eq_left hm]
theorem map_set' {α β : Type} (f : α → β) (l : List α) (k : Nat) (x : α) : (l.map f).set k (f x) = (l.set k x).map f := by rw [List.map_set]
theorem take_set_succ {α : Type} (l : List α) (k : Nat) (x : α) (hk : k < l.length) : (l.set k x).take (k + 1) = l.take k ++ [x] := by
  rw [List.take_succ_eq_append_getElem (by simpa using hk), List.getElem_set_self]
  congr 1
  rw [List.take_set, List.set_eq_of_length_le (by simp; omega)]

theorem rtBytes (v : Value) (xs : List Nat) (w : World) (hv : RdF w v xs) (hx : ∀ x ∈ xs, FP x) (hn0 : 0 < xs.length) (hsz : xs.length ≤ 2147483647) :
    Calls Try.prog 25 #[v, .string ⟨#[98, 121, 116, 101, 115]⟩] w fun e w' => ∃ v', e = .returned v' ∧ RdF w' v' (pick 4611686018427387904 xs) ∧ Below w.heap.size w w' := by
  go_enter Try.func25, Try.ntmps25
  go_wp2_with fail
  refine (reExp_any v xs _ _ hv hx two_fp hn0 hsz).mono ?_
  rintro e w1 ⟨v', rfl, h1, h2⟩
  go_wp2_with fail
  go_ret
  exact ⟨v', rfl, RdC.of_owns h1, h2⟩

theorem rtOther (v : Value) (u : ByteArray) (w : World) (h1 : (u.toList == [98, 121, 116, 101, 115]) = false) (h2 : (u.toList == [115, 101, 99, 111, 110, 100, 115]) = false) :
    Calls Try.prog 25 #[v, .string u] w fun e w' => e = .returned v ∧ w = w' := by
  go_enter Try.func25, Try.ntmps25
  go_wp2_with fail
  go_ret
  exact ⟨rfl, rfl⟩

set_option maxHeartbeats 1600000 in
set_option maxRecDepth 100000 in
theorem rtSecs (v : Value) (xs : List Nat) (w : World) (hv : RdF w v xs) (hx : ∀ x ∈ xs, FP x) (hn0 : 0 < xs.length) (hsz : xs.length ≤ 2147483647) :
    Calls Try.prog 25 #[v, .string ⟨#[115, 101, 99, 111, 110, 100, 115]⟩] w fun e w' => ∃ v', e = .returned v' ∧ RdF w' v' (cutOne (pick 4621819117588971520 xs)) ∧ Below w.heap.size w w' := by
  go_enter Try.func25, Try.ntmps25
  go_wp2_with fail
  refine (reExp_any v xs _ _ hv hx ten_fp hn0 hsz).mono ?_
  rintro e w1 ⟨v', rfl, hown, hb1⟩
  have hP : ∀ x ∈ pick 4621819117588971520 xs, FP x := fun x h => hx x (pick_mem _ _ x h)
  have hPl := pick_len 4621819117588971520 xs
  obtain ⟨P, hPe⟩ : ∃ P, P = pick 4621819117588971520 xs := ⟨_, rfl⟩
  rw [← hPe] at hP hPl hown
  have HPe := Lib.hid hPe
  clear hPe
  obtain ⟨ao, cp, hv', hcp⟩ : ∃ ao cp, v' = .slice ao P.length cp ∧ P.length ≤ cp := by
    rcases hown.2 with ⟨rfl, h0⟩ | ⟨g, cp, cur, rfl, _, _, hcp, _⟩
    · exact ⟨none, 0, by rw [h0], by omega⟩
    · exact ⟨_, _, rfl, hcp⟩
  subst hv'
  have hrr := RdC.of_owns hown
  go_wp2_with fail
  go_loopw [5, 18] (fun bv i wr => ∃ k : Nat, k ≤ P.length ∧ i = .int .i64 k ∧ bv = .slice ao P.length cp ∧ wr = w1 ∧ ∀ x ∈ P.take k, leB x 4607182418800017408 = true) (fun _ i _ => P.length - (intOf i).toNat)
  case atStart => exact ⟨0, Nat.zero_le _, rfl, rfl, rfl, by simp⟩
  case round =>
    obtain ⟨k, hk, rfl, rfl, rfl, hall⟩ := hrel
    have HALL := Lib.hid hall
    clear hall
    by_cases hlt : k < P.length
    · obtain ⟨g, rfl⟩ : ∃ g, ao = some ⟨g, 0, none⟩ := by
        rcases hown.2 with ⟨h, h0⟩ | ⟨g, c2, cur, h, _⟩
        · omega
        · cases h; exact ⟨_, rfl⟩
      have hc := hown.cellAt k (by omega)
      have hfr := hown.frozenAt k
      rw [List.getElem?_map, List.getElem?_eq_getElem hlt, Option.map_some] at hc
      have hfx := hP P[k] (List.getElem_mem _)
      have hgt := gt_or_le hfx.nn one_fp.nn
      have HST := Lib.hid (cutOne_stop P k hlt HALL.out)
      have HTS := Lib.hid (take_snocL P k hlt)
      generalize P[k] = x at *
      cases hle : leB x 4607182418800017408 with
      | true =>
        have HLE := Lib.hid hle
        have hle2 : (FloatKind.f64.format.order x 4607182418800017408 == some .lt || FloatKind.f64.format.order x 4607182418800017408 == some .eq) = true := hle
        clear hle hgt
        go_wp2_with fail
        go_roundw
        case rel =>
          refine ⟨k + 1, by omega, by go_num, by first | rfl | trivial, by first | rfl | trivial, ?_⟩
          rw [HTS.out]
          intro y hy
          rw [List.mem_append] at hy
          rcases hy with hy | hy
          · exact HALL.out y hy
          · simp only [List.mem_singleton] at hy; rw [hy]; exact HLE.out
        case measure => simp [intOf]; omega
      | false =>
        have HLE := Lib.hid hle
        have hle2 : (FloatKind.f64.format.order x 4607182418800017408 == some .lt || FloatKind.f64.format.order x 4607182418800017408 == some .eq) = false := hle
        clear hle hgt
        go_wp2_with (go_at_call 35; go_must (refine (inf_pos _).mono ?_; rintro e w3 ⟨rfl, rfl⟩))
        go_ret
        obtain ⟨s1, s2⟩ := hown.stored k (.float .f64 9218868437227405312)
        have s3 := own_cut s1 (m := k + 1) (by omega)
        rw [map_set', ← List.map_take, take_set_succ P k _ hlt] at s3
        have s4 := RdC.of_owns (f := Value.float .f64) s3
        refine ⟨_, rfl, ?_, hb1.grown s2 hb1.size (fun j hj => by cases hj; exact (hown.lt g rfl).1)⟩
        rw [← HPe.out, HST.out HLE.out]
        exact s4
    · go_wp2_with fail
      go_ret
      rw [List.take_of_length_le (by omega)] at HALL
      exact ⟨_, rfl, by rw [← HPe.out, cutOne_all _ HALL.out]; exact hrr, hb1⟩

set_option maxHeartbeats 800000 in
theorem unitBytes (v : Value) (xs : List Nat) (w : World) (hv : RdF w v xs) (hx : ∀ x ∈ xs, FP x) (hn0 : 2 ≤ xs.length) (hsz : xs.length ≤ 2147483647) :
    Calls Try.prog 15 #[v, .string ⟨#[98, 121, 116, 101, 115]⟩] w fun e w' => ∃ v', e = .returned v' ∧ RdF w' v' (pick 4611686018427387904 xs) ∧ Below w.heap.size w w' := by
  obtain ⟨i0, hi, hz0, hz1, hz2⟩ := info_parts info_f64
  obtain ⟨a, cap, b, off, rfl, hl, hm, ha, hc⟩ := hv
  obtain rfl : a = some ⟨b, off, none⟩ := ha.resolve_left (by intro h; simp [h] at hn0)
  have hB3 : 0 + xs.length ≤ maxLen := by unfold maxLen; omega
  have hB4 : (0 + xs.length) * 8 ≤ 140737488355328 := by omega
  have hnews := cells_news (f := Value.float .f64) hc
  have hones := ones_map (Value.float .f64) (fun _ => rfl) xs
  have hlen : (xs.map (Value.float .f64)).length = xs.length * 1 := by simp
  have HLN := Lib.hid hlen
  clear hc hlen ha
  unfold maxLen at hm
  go_enter Try.func15, Try.ntmps15
  go_wp2_with (at_builtin; go_must (refine wpList_append_own _ rfl _ _ 23 rfl w.heap.size 25 i0 (.float .f64 0) 1 8 Try.underlying23 hi hz0 hz1 hz2 rfl (by decide) (.slice none 0 0) 0 [] rfl (World.ownsRow_nil _ _ _ _) ⟨b, off, none⟩ xs.length cap (xs.map (Value.float .f64)) rfl HLN.out hnews hones hB3 hB4 (Nat.le_refl _) ?_))
  intro v' w2 hown' hgrow _
  have hb2 := (Below.refl w.heap.size w).grown hgrow (Nat.le_refl _) (by intro k hk; cases hk)
  have hrd := RdC.of_owns hown'
  go_wp2_with fail
  refine (rtBytes v' xs _ hrd hx (by omega) hsz).mono ?_
  rintro e w3 ⟨v3, rfl, h3, h4⟩
  go_wp2_with fail
  go_ret
  exact ⟨v3, rfl, h3, hb2.trans (h4.mono hb2.size)⟩

set_option maxHeartbeats 800000 in
theorem unitSecs (v : Value) (xs : List Nat) (w : World) (hv : RdF w v xs) (hx : ∀ x ∈ xs, FP x) (hn0 : 2 ≤ xs.length) (hsz : xs.length ≤ 2147483647) :
    Calls Try.prog 15 #[v, .string ⟨#[115, 101, 99, 111, 110, 100, 115]⟩] w fun e w' => ∃ v', e = .returned v' ∧ RdF w' v' (cutOne (pick 4621819117588971520 xs)) ∧ Below w.heap.size w w' := by
  obtain ⟨i0, hi, hz0, hz1, hz2⟩ := info_parts info_f64
  obtain ⟨a, cap, b, off, rfl, hl, hm, ha, hc⟩ := hv
  obtain rfl : a = some ⟨b, off, none⟩ := ha.resolve_left (by intro h; simp [h] at hn0)
  have hB3 : 0 + xs.length ≤ maxLen := by unfold maxLen; omega
  have hB4 : (0 + xs.length) * 8 ≤ 140737488355328 := by omega
  have hnews := cells_news (f := Value.float .f64) hc
  have hones := ones_map (Value.float .f64) (fun _ => rfl) xs
  have hlen : (xs.map (Value.float .f64)).length = xs.length * 1 := by simp
  have HLN := Lib.hid hlen
  clear hc hlen ha
  unfold maxLen at hm
  go_enter Try.func15, Try.ntmps15
  go_wp2_with (at_builtin; go_must (refine wpList_append_own _ rfl _ _ 23 rfl w.heap.size 25 i0 (.float .f64 0) 1 8 Try.underlying23 hi hz0 hz1 hz2 rfl (by decide) (.slice none 0 0) 0 [] rfl (World.ownsRow_nil _ _ _ _) ⟨b, off, none⟩ xs.length cap (xs.map (Value.float .f64)) rfl HLN.out hnews hones hB3 hB4 (Nat.le_refl _) ?_))
  intro v' w2 hown' hgrow _
  have hb2 := (Below.refl w.heap.size w).grown hgrow (Nat.le_refl _) (by intro k hk; cases hk)
  have hrd := RdC.of_owns hown'
  go_wp2_with fail
  refine (rtSecs v' xs _ hrd hx (by omega) hsz).mono ?_
  rintro e w3 ⟨v3, rfl, h3, h4⟩
  go_wp2_with fail
  go_ret
  exact ⟨v3, rfl, h3, hb2.trans (h4.mono hb2.size)⟩

set_option maxHeartbeats 800000 in
theorem unitOther (v : Value) (xs : List Nat) (u : ByteArray) (h1 : (u.toList == [98, 121, 116, 101, 115]) = false) (h2 : (u.toList == [115, 101, 99, 111, 110, 100, 115]) = false) (w : World) (hv : RdF w v xs) (hx : ∀ x ∈ xs, FP x) (hn0 : 2 ≤ xs.length) (hsz : xs.length ≤ 2147483647) :
    Calls Try.prog 15 #[v, .string u] w fun e w' => ∃ v', e = .returned v' ∧ RdF w' v' xs ∧ Below w.heap.size w w' := by
  obtain ⟨i0, hi, hz0, hz1, hz2⟩ := info_parts info_f64
  obtain ⟨a, cap, b, off, rfl, hl, hm, ha, hc⟩ := hv
  obtain rfl : a = some ⟨b, off, none⟩ := ha.resolve_left (by intro h; simp [h] at hn0)
  have hB3 : 0 + xs.length ≤ maxLen := by unfold maxLen; omega
  have hB4 : (0 + xs.length) * 8 ≤ 140737488355328 := by omega
  have hnews := cells_news (f := Value.float .f64) hc
  have hones := ones_map (Value.float .f64) (fun _ => rfl) xs
  have hlen : (xs.map (Value.float .f64)).length = xs.length * 1 := by simp
  have HLN := Lib.hid hlen
  clear hc hlen ha
  unfold maxLen at hm
  go_enter Try.func15, Try.ntmps15
  go_wp2_with (at_builtin; go_must (refine wpList_append_own _ rfl _ _ 23 rfl w.heap.size 25 i0 (.float .f64 0) 1 8 Try.underlying23 hi hz0 hz1 hz2 rfl (by decide) (.slice none 0 0) 0 [] rfl (World.ownsRow_nil _ _ _ _) ⟨b, off, none⟩ xs.length cap (xs.map (Value.float .f64)) rfl HLN.out hnews hones hB3 hB4 (Nat.le_refl _) ?_))
  intro v' w2 hown' hgrow _
  have hb2 := (Below.refl w.heap.size w).grown hgrow (Nat.le_refl _) (by intro k hk; cases hk)
  have hrd := RdC.of_owns hown'
  go_wp2_with fail
  refine (rtOther v' u _ h1 h2).mono ?_
  rintro e w3 ⟨rfl, rfl⟩
  go_wp2_with fail
  go_ret
  exact ⟨v', rfl, hrd, hb2⟩

theorem infinite_any (w : World) : Calls Try.prog 16 #[] w fun e w' => e = .returned (.float .f64 9218868437227405312) ∧ w = w' := by
  have hmul := fun t wx => run_float_arith (P := Try.prog) wx .mul t .f64 9218868437227405311 4611686018427387904 9218868437227405312 (by decide +kernel)
  go_enter Try.func16, Try.ntmps16
  go_wp2
  go_ret
  exact ⟨rfl, rfl⟩
end Go.Proofs.Yteibgcmpkgilfaa
