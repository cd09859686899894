/- reBucketExp, ReBucket, BucketWhole and the law FnReBucket. -/
import Derived.Test.YteibgcmpkgilfaaReb
import Derived.Laws.Externs
set_option linter.unusedVariables false
set_option linter.unusedSimpArgs false
namespace Go.Proofs.Yteibgcmpkgilfaa
open Go.RowKit Go.WideShapes

theorem frombits_any (n : Int) (w : World) : (callFunc 42 #[.int .u64 n]).run Try.prog w = .ok (.value (.float .f64 n.toNat)) w := by
  rw [run_callFunc_extern Try.func42 (by kernel_rfl) (by kernel_rfl) (by kernel_rfl) (e := Extern.MathFloatBits.float64frombits) (by kernel_rfl)]
  rfl

theorem inf_neg (w : World) : Calls Try.prog 35 #[.int .i64 (-1)] w fun e w' => e = .returned (.float .f64 18442240474082181120) ∧ w = w' := by
  have hfb := fun n wx => frombits_any n wx
  go_enter Try.func35, Try.ntmps35
  go_wp2
  go_ret
  exact ⟨rfl, rfl⟩
theorem inf_pos (w : World) : Calls Try.prog 35 #[.int .i64 1] w fun e w' => e = .returned (.float .f64 9218868437227405312) ∧ w = w' := by
  have hfb := fun n wx => frombits_any n wx
  go_enter Try.func35, Try.ntmps35
  go_wp2
  go_ret
  exact ⟨rfl, rfl⟩

set_option maxHeartbeats 1600000 in
set_option maxRecDepth 100000 in
theorem reExp_any (v : Value) (xs : List Nat) (base : Nat) (w : World) (hv : RdF w v xs) (hx : ∀ x ∈ xs, FP x) (hb0 : FP base) (hn0 : 0 < xs.length) (hsz : xs.length ≤ 2147483647) :
    Calls Try.prog 31 #[v, .float .f64 base] w fun e w' => ∃ v', e = .returned v' ∧ w'.ownsRow w.heap.size 25 1 v' (pick base xs).length ((pick base xs).map (Value.float .f64)) ∧ Below w.heap.size w w' := by
  obtain ⟨i0, hi, hz0, hz1, hz2⟩ := info_parts info_f64
  obtain ⟨a, cap, b, off, rfl, hl, hm, ha, hc⟩ := hv
  unfold maxLen at hm
  obtain rfl : a = some ⟨b, off, none⟩ := ha.resolve_left (by intro h; simp [h] at hn0)
  have hc0 := RdC.at hc (Below.refl _ _) hn0
  rw [Nat.add_zero] at hc0
  have hf0 := hx xs[0] (List.getElem_mem _)
  have hni : (FloatKind.f64.format.order xs[0] 18442240474082181120 == some .eq) = false := by
    have h := fp_neginf hf0
    show (Ieee.double.order xs[0] 18442240474082181120 == some .eq) = false
    rw [h]; rfl
  have HT1 := Lib.hid (show xs.take 1 = [xs[0]] by rw [take_snocL xs 0 hn0]; rfl)
  generalize xs[0] = x0 at *
  go_enter Try.func31, Try.ntmps31
  go_wp2_with (go_at_call 35; go_must (refine (inf_neg _).mono ?_; rintro e w1 ⟨rfl, rfl⟩))
  go_loopw [5, 6, 7] (fun bv v i wr => ∃ (k y : Nat) (nb : List Nat), 1 ≤ k ∧ k ≤ xs.length ∧ i = .int .i64 k ∧ bv = .float .f64 y ∧ pick base (xs.take k) = nb ++ [y] ∧ wr.ownsRow w.heap.size 25 1 v nb.length (nb.map (Value.float .f64)) ∧ Below w.heap.size w wr) (fun _ _ i _ => xs.length - (intOf i).toNat)
  case atStart => exact ⟨1, x0, [], by omega, by omega, rfl, rfl, by rw [HT1.out]; rfl, World.ownsRow_nil _ _ _ _, Below.refl _ _⟩
  case round =>
    obtain ⟨k, y, nb, hk1, hk, rfl, rfl, hpk, hown, hb⟩ := hrel
    have hfy : FP y := hx y (List.mem_of_mem_take (pick_mem base (xs.take k) y (by rw [hpk]; simp)))
    have hnl : nb.length + 1 ≤ k := by
      have h1 := pick_len base (xs.take k)
      have h2 : (xs.take k).length ≤ k := List.length_take_le _ _
      rw [hpk] at h1; simp at h1; omega
    have HPK := Lib.hid hpk
    clear hpk
    by_cases hlt : k < xs.length
    · have hcx := RdC.at hc hb hlt
      have hts := Lib.hid (take_snocL xs k hlt)
      have hfx := hx xs[k] (List.getElem_mem _)
      generalize hxk : xs[k] = x at *
      have HX := Lib.hid hxk
      clear hxk
      obtain ⟨r, hmr, hnr⟩ := mul_nn hfy hb0
      have hmB : mulB y base = r := by unfold mulB; rw [hmr]; rfl
      have hmul := fun t wx => run_float_arith (P := Try.prog) wx .mul t .f64 y base r hmr
      have HN := Lib.hid (show pick base (xs.take (k + 1)) = if geB x r then nb ++ [y] ++ [x] else nb ++ [y] by
        rw [hts.out, pick_snoc, HPK.out]; unfold pickStep; simp only [List.getLast?_append, List.getLast?_singleton, Option.some_or]; rw [hmB])
      have hy0 : (FloatKind.f64.format.order y 0 == some .gt) = true := by
        show (Ieee.double.order y 0 == some .gt) = true
        rw [fp_zero hfy]; rfl
      have hy1 : (FloatKind.f64.format.order y 0 == some .lt) = false := by
        show (Ieee.double.order y 0 == some .lt) = false
        rw [fp_zero hfy]; rfl
      have hcmp := lt_or_ge hfx.nn hnr
      clear hmB hmr
      cases hge : geB x r with
      | true =>
        have HGE := Lib.hid hge
        have hlt2 : (FloatKind.f64.format.order x r == some .lt) = false := by
          show (Ieee.double.order x r == some .lt) = false
          rw [hcmp]; unfold geB at hge; rw [hge]; rfl
        clear hge hcmp
        go_wp2_with (at_builtin; go_must (refine wpList_append_own _ rfl _ _ 23 rfl w.heap.size 25 i0 (.float .f64 0) 1 8 Try.underlying23 hi hz0 hz1 hz2 rfl (by decide) _ _ _ rfl (hown.alloc _) ⟨wr.heap.size, 0, none⟩ 1 1 [.float .f64 y] rfl rfl ?c1 ?c2 ?c3 ?c4 ?c5 ?_))
        case c1 => exact cell_one_new _ _ _
        case c2 => intro u hu; simp at hu; subst hu; rfl
        case c3 => unfold maxLen; omega
        case c4 => omega
        case c5 => exact Nat.le_trans hb.size (size_alloc_le _ _)
        intro v' w2 hown' hgrow _
        have hb2 := (hb.alloc hb.size (.cells #[.float .f64 y] 25)).grown hgrow (Nat.le_trans hb.size (size_alloc_le _ _)) (fun k hk => (hown.lt k hk).1)
        have hcx2 := RdC.at hc hb2 hlt
        have HX2 : w2.cell? ⟨b, off + k, none⟩ = some (.float .f64 x) := by rw [hcx2]; exact congrArg some (congrArg _ (HX.out))
        clear hcx2
        go_wp2_with fail
        go_roundw
        case rel =>
          refine ⟨k + 1, x, nb ++ [y], by omega, by omega, by go_num, rfl, by rw [HN.out, HGE.out]; rfl, ?_, hb2⟩
          simpa using hown'
        case measure => simp [intOf]; omega
      | false =>
        have HGE := Lib.hid hge
        have hlt2 : (FloatKind.f64.format.order x r == some .lt) = true := by
          show (Ieee.double.order x r == some .lt) = true
          rw [hcmp]; unfold geB at hge; rw [hge]; rfl
        clear hge hcmp
        go_wp2_with fail
        go_roundw
        case rel => exact ⟨k + 1, y, nb, by omega, by omega, by go_num, rfl, by rw [HN.out, HGE.out]; rfl, hown, hb⟩
        case measure => simp [intOf]; omega
    · have HE := Lib.hid (show pick base xs = nb ++ [y] by rw [← HPK.out, List.take_of_length_le (by omega)])
      go_wp2_with (at_builtin; go_must (refine wpList_append_own _ rfl _ _ 23 rfl w.heap.size 25 i0 (.float .f64 0) 1 8 Try.underlying23 hi hz0 hz1 hz2 rfl (by decide) _ _ _ rfl (hown.alloc _) ⟨wr.heap.size, 0, none⟩ 1 1 [.float .f64 y] rfl rfl ?c1 ?c2 ?c3 ?c4 ?c5 ?_))
      case c1 => exact cell_one_new _ _ _
      case c2 => intro u hu; simp at hu; subst hu; rfl
      case c3 => unfold maxLen; omega
      case c4 => omega
      case c5 => exact Nat.le_trans hb.size (size_alloc_le _ _)
      intro v' w2 hown' hgrow _
      have hb2 := (hb.alloc hb.size (.cells #[.float .f64 y] 25)).grown hgrow (Nat.le_trans hb.size (size_alloc_le _ _)) (fun k hk => (hown.lt k hk).1)
      go_wp2_with fail
      go_ret
      refine ⟨_, rfl, ?_, hb2⟩
      rw [HE.out]
      simpa using hown'
end Go.Proofs.Yteibgcmpkgilfaa
