/- The law FnReBucket. -/
import Derived.Test.YteibgcmpkgilfaaReb3
set_option linter.unusedVariables false
set_option linter.unusedSimpArgs false
namespace Go.Proofs.Yteibgcmpkgilfaa
open Go.RowKit Go.WideShapes

theorem doorReb (v : Value) (xs : List Nat) (base : Nat) (w : World) (hv : RdF w v xs) (hx : ∀ x ∈ xs, FP x) (hb0 : FP base) (hn0 : 0 < xs.length) (hsz : xs.length ≤ 2147483647) :
    Calls Try.prog 22 #[v, .float .f64 base] w fun e w' => ∃ v', e = .returned v' ∧ w'.ownsRow w.heap.size 25 1 v' (pick base xs).length ((pick base xs).map (Value.float .f64)) ∧ Below w.heap.size w w' := by
  go_enter Try.func22, Try.ntmps22
  go_wp2_with fail
  refine (reExp_any v xs base _ hv hx hb0 hn0 hsz).mono ?_
  rintro e w1 ⟨v', rfl, h1, h2⟩
  go_wp2_with fail
  go_ret
  exact ⟨v', rfl, h1, h2⟩

theorem cells_news {α : Type} {f : α → Value} {w : World} {b off : Nat} {xs : List α} (hc : ∀ i x, xs[i]? = some x → w.cell? ⟨b, off + i, none⟩ = some (f x)) :
    ∀ j u, (xs.map f)[j]? = some u → w.cell? ((⟨b, off, none⟩ : Addr).add j) = some u := by
  intro j u hj
  rw [List.getElem?_map, Option.map_eq_some_iff] at hj
  obtain ⟨x, hx, rfl⟩ := hj
  rw [add_plain]
  exact hc j x hx
theorem ones_map {α : Type} (f : α → Value) (hf : ∀ x, (f x).oneCell' = true) (xs : List α) : ∀ u ∈ xs.map f, u.oneCell' = true := by
  intro u hu
  obtain ⟨x, _, rfl⟩ := List.mem_map.1 hu
  exact hf x

set_option maxHeartbeats 800000 in
theorem implReb (v : Value) (xs : List Nat) (base : Nat) (w : World) (hv : RdF w v xs) (hx : ∀ x ∈ xs, FP x) (hb0 : FP base) (hn0 : 2 ≤ xs.length) (hsz : xs.length ≤ 2147483647) :
    Calls Try.prog 9 #[v, .float .f64 base] w fun e w' => ∃ v', e = .returned v' ∧ RdF w' v' (pick base xs) ∧ Below w.heap.size w w' := by
  obtain ⟨i0, hi, hz0, hz1, hz2⟩ := info_parts info_f64
  obtain ⟨a, cap, b, off, rfl, hl, hm, ha, hc⟩ := hv
  obtain rfl : a = some ⟨b, off, none⟩ := ha.resolve_left (by intro h; simp [h] at hn0)
  have hB3 : 0 + xs.length ≤ maxLen := by unfold maxLen; omega
  have hB4 : (0 + xs.length) * 8 ≤ 140737488355328 := by omega
  have hnews := cells_news (f := Value.float .f64) hc
  have hones := ones_map (Value.float .f64) (fun _ => rfl) xs
  have hlen : (xs.map (Value.float .f64)).length = xs.length * 1 := by simp
  have HC := Lib.hid hc
  have HLN := Lib.hid hlen
  clear hc hlen ha
  unfold maxLen at hm
  go_enter Try.func9, Try.ntmps9
  go_wp2_with (at_builtin; go_must (refine wpList_append_own _ rfl _ _ 23 rfl w.heap.size 25 i0 (.float .f64 0) 1 8 Try.underlying23 hi hz0 hz1 hz2 rfl (by decide) (.slice none 0 0) 0 [] rfl (World.ownsRow_nil _ _ _ _) ⟨b, off, none⟩ xs.length cap (xs.map (Value.float .f64)) rfl HLN.out hnews hones hB3 hB4 (Nat.le_refl _) ?_))
  intro v' w2 hown' hgrow _
  have hb2 := (Below.refl w.heap.size w).grown hgrow (Nat.le_refl _) (by intro k hk; cases hk)
  have hrd := RdC.of_owns hown'
  go_wp2_with fail
  refine (doorReb v' xs base _ hrd hx hb0 (by omega) hsz).mono ?_
  rintro e w3 ⟨v3, rfl, h3, h4⟩
  go_wp2_with fail
  go_ret
  exact ⟨v3, rfl, RdC.of_owns h3, hb2.trans (h4.mono hb2.size)⟩

theorem sameL_refl (xs : List Nat) (h : ∀ x ∈ xs, FP x) : sameL xs xs = true := by
  induction xs with
  | nil => rfl
  | cons x r ih =>
    have h1 : sameB x x = true := by unfold sameB; rw [order_self (h x (by simp)).nn]; rfl
    simp only [sameL, h1, ih (fun y hy => h y (by simp [hy])), Bool.and_self]

def lit3 : List Nat := [4607182418800017408, 4611686018427387904, 4616189618054758400]
theorem lit3_fp : ∀ x ∈ lit3, FP x := by
  intro x hx
  simp only [lit3, List.mem_cons, List.not_mem_nil, or_false] at hx
  rcases hx with rfl | rfl | rfl <;> exact read_mid (by omega) (by omega)
theorem two_fp : FP 4611686018427387904 := read_mid (by omega) (by omega)
theorem lit3_pick : (pick 4611686018427387904 lit3).length = 3 := by decide +kernel
theorem lit3_rd (w : World) : RdF (w.alloc (.cells #[.float .f64 4607182418800017408, .float .f64 4611686018427387904, .float .f64 4616189618054758400] 25)) (.slice (some ⟨w.heap.size, 0, none⟩) 3 3) lit3 := by
  refine ⟨_, 3, w.heap.size, 0, rfl, Nat.le_refl _, by unfold maxLen; decide, .inr rfl, fun i x hx => ?_⟩
  rw [Lib.cell_of_heap (heap_alloc_new w _), Nat.zero_add]
  match i, hx with
  | 0, hx => cases hx; rfl
  | 1, hx => cases hx; rfl
  | 2, hx => cases hx; rfl

theorem RdC.shape {α : Type} {f : α → Value} {w : World} {v : Value} {xs : List α} (h : RdC f w v xs) : ∃ a c, v = .slice a xs.length c := by
  obtain ⟨a, c, _, _, h, _⟩ := h
  exact ⟨a, c, h⟩

set_option maxHeartbeats 800000 in
set_option maxRecDepth 100000 in
theorem rebLaw (v : Value) (xs : List Int) (n : Int) (w : World) (hv : RdI w v xs) (hn0 : -9223372036854775808 ≤ n) (hn1 : n ≤ 9223372036854775807) :
    Calls Try.prog 3 #[v, .int .i64 n] w fun e w' => e = .returned (.bool true) ∧ Below w.heap.size w w' := by
  obtain ⟨a, c, hve⟩ := hv.shape
  have HV := Lib.hid hv
  subst hve
  clear hv
  by_cases hs : xs.length ≤ 2147483647
  · have htm := tmod_bd n 19 (by omega)
    have hwl := whole_len xs
    have hwf := whole_fp xs
    have hbf : FP (floatOfInt .f64 (n.tmod 19 % 19 + 2)) := int_fp (by omega) (by omega)
    have hpl := pick_len (floatOfInt .f64 (n.tmod 19 % 19 + 2)) (whole xs)
    go_enter Try.func3, Try.ntmps3
    go_wp2_with fail
    refine (whole_any _ xs _ HV.out).mono ?_
    rintro e w1 ⟨v1, rfl, hown1, hb1⟩
    have hr1 := RdC.of_owns hown1
    clear hown1
    obtain ⟨a1, c1, hv1⟩ := hr1.shape
    have HR1 := Lib.hid hr1
    subst hv1
    clear hr1
    by_cases h2 : 2 ≤ (whole xs).length
    · go_wp2_with fail
      refine (implReb _ lit3 _ _ (lit3_rd w1) lit3_fp two_fp (by decide) (by decide)).mono ?_
      rintro e w2 ⟨v2, rfl, hr2, hb2⟩
      obtain ⟨a2, c2, hv2⟩ := hr2.shape
      rw [lit3_pick] at hv2
      subst hv2
      have hb02 := hb1.trans (((Below.refl w1.heap.size w1).alloc (Nat.le_refl _) _).trans (hb2.mono (size_alloc_le _ _)) |>.mono hb1.size)
      have hb12 := ((Below.refl w1.heap.size w1).alloc (Nat.le_refl _) (.cells #[.float .f64 4607182418800017408, .float .f64 4611686018427387904, .float .f64 4616189618054758400] 25)).trans (hb2.mono (size_alloc_le _ _))
      have HR2 := Lib.hid (HR1.out.below hb12)
      clear hr2
      go_wp2_with fail
      refine (implReb _ (whole xs) _ _ HR2.out hwf hbf h2 (by omega)).mono ?_
      rintro e w3 ⟨v3, rfl, hr3, hb3⟩
      have HR3 := Lib.hid hr3
      have HR23 := Lib.hid (HR2.out.below hb3)
      clear hr3
      go_wp2_with fail
      refine (bucketPick_any _ (whole xs) _ _ HR23.out hwf hbf (by omega)).mono ?_
      rintro e w4 ⟨v4, rfl, hr4, hb4⟩
      have HR4 := Lib.hid hr4
      have HR34 := Lib.hid (HR3.out.below hb4)
      clear hr4
      go_wp2_with fail
      refine (sameNums_any _ _ _ _ _ HR34.out HR4.out).mono ?_
      rintro e w5 ⟨rfl, hb5⟩
      rw [sameL_refl _ (fun y hy => hwf y (pick_mem _ _ y hy))]
      go_wp2_with fail
      go_ret
      have q3 := hb02.trans (hb3.mono hb02.size)
      have q4 := q3.trans (hb4.mono q3.size)
      exact ⟨rfl, q4.trans (hb5.mono q4.size)⟩
    · go_wp2_with fail
      refine (implReb _ lit3 _ _ (lit3_rd w1) lit3_fp two_fp (by decide) (by decide)).mono ?_
      rintro e w2 ⟨v2, rfl, hr2, hb2⟩
      obtain ⟨a2, c2, hv2⟩ := hr2.shape
      rw [lit3_pick] at hv2
      subst hv2
      have hb02 := hb1.trans (((Below.refl w1.heap.size w1).alloc (Nat.le_refl _) _).trans (hb2.mono (size_alloc_le _ _)) |>.mono hb1.size)
      go_wp2_with fail
      go_ret
      exact ⟨rfl, hb02⟩
  · go_enter Try.func3, Try.ntmps3
    go_wp2_with fail
    go_ret
    exact ⟨rfl, Below.refl _ _⟩

theorem open_i64s {H : Type} {enc : TypeId × Value → H} {W : World} {base : Nat} {v : Value} {d : DataW H} {ps : List MemPlace}
    (hok : Value.okWide Try.prog W .any base 22 v) (h : DataW.Trod enc Try.prog W 0 (fun _ => true) true 22 v d ps) : ∃ xs : List Int, RdI W v xs := by
  obtain ⟨xs, hx⟩ := open_g (n := 1) (R := fun _ cs (x : Int) => cs = [.int .i64 x] ∧ (Lit.int .i64 x).wf = true) Try.underlying22 (by kernel_rfl) (by omega) (el_int Try.underlying3) hok h
  exact ⟨xs, hx.one.1⟩
theorem wf64 {x : Int} (h : (Lit.int .i64 x).wf = true) : -9223372036854775808 ≤ x ∧ x ≤ 9223372036854775807 := by
  simpa [Lit.wf, IntKind.min, IntKind.max, IntKind.signed, IntKind.bits] using h

theorem fnReBucket.walk0 (w : World) (v : Value) (xs : List Int) (hv : RdI w v xs) (n : Int) (hn : (Lit.int .i64 n).wf = true) :
    Calls Try.prog 3 #[v, .int .i64 n] w fun e w' => e = .returned (.bool true) ∧ Below w.heap.size w w' := by
  exact rebLaw v xs n _ hv (wf64 hn).1 (wf64 hn).2
end Go.Proofs.Yteibgcmpkgilfaa
