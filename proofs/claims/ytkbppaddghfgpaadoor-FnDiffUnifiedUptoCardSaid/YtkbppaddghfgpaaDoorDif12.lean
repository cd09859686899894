/- GetOpCodes. -/
import Derived.Test.YtkbppaddghfgpaaDoorDif11
set_option linter.unusedVariables false
set_option linter.unusedSimpArgs false
namespace Go.Proofs.YtkbppaddghfgpaaDoor
open Go.RowKit Go.Maps

set_option maxHeartbeats 3200000 in
set_option maxRecDepth 100000 in
theorem opCodes_any {M : Nat} {a b : List ByteArray} {L : ByteArray → List Nat} (w : World) (hm : Mem0 w M a b L) (hL : ∀ v j, j ∈ L v → b[j]? = some v)
    (hla : a.length ≤ 2147483647) (hlb : b.length ≤ 2147483647) (hsa : ∀ s ∈ a, s.size ≤ maxLen) (hsb : ∀ s ∈ b, s.size ≤ maxLen) :
    Calls Tryd.prog 18 #[.pointer (some ⟨M, 0, none⟩)] w
      fun e w' => (∃ v, e = .returned v ∧ RdF w' v (edits (gmb a b L))) ∧ Below M w w' := by
  have HL := Lib.hid hL
  have HSA := Lib.hid hsa
  have HSB := Lib.hid hsb
  have HM := Lib.hid hm
  have HB := Lib.hid (gmb_bound (a := a) hL)
  obtain ⟨av, bv, jv, ju, pv, hM, hrest⟩ := hm
  clear hrest
  have hML := hM.lt
  have q9 : w.cell? ⟨M, 9, none⟩ = some (.slice none 0 0) := by rw [Lib.cell_of_heap hM]; rfl
  have hno := nil_ops w
  obtain ⟨i0, hi, hz0, hz1, hz2⟩ := info_parts info_op
  clear hL hsa hsb hM
  go_enter Tryd.func18, Tryd.ntmps18
  go_wp2_with (go_at_call 25; go_must (refine (blocks_any w HM.out HL.out hla hlb HSA.out HSB.out).mono ?_))
  rintro e w1 ⟨⟨mv, rfl, hrd, av', bv', jv', jk', pv', hM1⟩, hb1⟩
  obtain ⟨hbd, hml⟩ := HB.out
  have HBD := Lib.hid hbd
  have HJ : Hid (edits (gmb a b L) = ((gmb a b L).foldl opStep ([], 0, 0)).1) := Lib.hid rfl
  have HHM := Lib.hid HM
  clear hbd HB HM HL HSA HSB hno q9
  generalize hgmb : gmb a b L = ms at *
  have HGM := Lib.hid hgmb
  clear hgmb
  have hML1 := hM1.lt
  obtain ⟨mp, mcap, mb, moff, rfl, hmc, hmmx, hmp, hmcell⟩ := hrd
  unfold maxLen at hmmx
  have HMC := Lib.hid hmcell
  clear hmcell
  go_wp2_with (at_make; go_must (refine wpList_make_own _ rfl _ _ 49 rfl w1.heap.size 63 i0 (.agg #[.int .u8 0, .int .i64 0, .int .i64 0, .int .i64 0, .int .i64 0]) 5 Tryd.underlying49 hi hz0 hz1 .i64 .i64 _ ms.length rfl rfl rfl (by rw [hz2]; omega) (by unfold maxLen; omega) (Nat.le_refl _) ?_))
  intro wm hom hgm
  have hbm : Below w1.heap.size w1 wm := ⟨hgm.os, hgm.tape, hgm.output, hgm.size, fun i h => hgm.block i h (by simp)⟩
  clear hgm
  go_wp2_with fail
  go_loopw [3, 4, 6, 29] (fun v3 v4 v6 v29 wr => ∃ t : Nat, t ≤ ms.length ∧ wr.ownsRow w1.heap.size 63 5 v6 ((ms.take t).foldl opStep ([], 0, 0)).1.length (fiv ((ms.take t).foldl opStep ([], 0, 0)).1) ∧
      v3 = .int .i64 (((ms.take t).foldl opStep ([], 0, 0)).2.1 : Int) ∧ v4 = .int .i64 (((ms.take t).foldl opStep ([], 0, 0)).2.2 : Int) ∧ v29 = .int .i64 (t : Int) ∧ Below w1.heap.size w1 wr)
    (fun _ _ _ v29 _ => ms.length - (intOf v29).toNat)
  case atStart => exact ⟨0, Nat.zero_le _, hom, rfl, rfl, rfl, hbm⟩
  case round =>
    clear hom hbm
    obtain ⟨t, ht, hown, rfl, rfl, rfl, hbr⟩ := hrel
    have hjo := op_ok (la := a.length) (lb := b.length) (ms.take t) (fun t' h' => HBD.out t' (List.mem_of_mem_take h')) ([], 0, 0) (Nat.zero_le _) (Nat.zero_le _)
    have htl : (ms.take t).length = t := by rw [List.length_take]; omega
    rw [htl, List.length_nil, Nat.zero_add] at hjo
    by_cases hlt : t < ms.length
    · obtain rfl : mp = some ⟨mb, moff, none⟩ := by
        rcases hmp with h | h
        · rw [h] at hlt; exact absurd hlt (Nat.not_lt_zero _)
        · exact h
      obtain ⟨c1, c2, c3⟩ := HMC.out t ms[t] (List.getElem?_eq_getElem hlt)
      have hbd := HBD.out ms[t] (List.getElem_mem hlt)
      have HT : Hid ((ms.take (t + 1)).foldl opStep ([], 0, 0) = opStep ((ms.take t).foldl opStep ([], 0, 0)) ms[t]) := Lib.hid (by rw [List.take_succ_eq_append_getElem hlt, op_snoc])
      have hlt' : (t : Int) < (ms.length : Int) := by omega
      generalize ms[t] = tr at *
      generalize (ms.take t).foldl opStep ([], 0, 0) = St at *
      obtain ⟨out, i1, j1⟩ := St
      obtain ⟨i2, j2, k2⟩ := tr
      simp only at c1 c2 c3 hbd hown hjo HT
      obtain ⟨hj1, hj2, hj3⟩ := hjo
      have d1 := (hbr.cell (p := ⟨mb, moff + t * 3, none⟩) (World.block_lt_of_cell? w1 _ c1)).trans c1
      have d2 := (hbr.cell (p := ⟨mb, moff + t * 3 + 1, none⟩) (World.block_lt_of_cell? w1 _ c2)).trans c2
      have d3 := (hbr.cell (p := ⟨mb, moff + t * 3 + 2, none⟩) (World.block_lt_of_cell? w1 _ c3)).trans c3
      clear c1 c2 c3
      go_upto_region 9 with fail
      have hR : (wr.alloc (.cells #[.int .i64 (i2 : Int), .int .i64 (j2 : Int), .int .i64 (k2 : Int)] 73)).heap[wr.heap.size]? = some (.cells #[.int .i64 (i2 : Int), .int .i64 (j2 : Int), .int .i64 (k2 : Int)] 73) := heap_alloc_new wr _
      have hb4 : Below wr.heap.size wr (wr.alloc (.cells #[.int .i64 (i2 : Int), .int .i64 (j2 : Int), .int .i64 (k2 : Int)] 73)) := (Below.refl _ wr).alloc (Nat.le_refl _) _
      have hsw : w1.heap.size ≤ wr.heap.size := hbr.size
      generalize wr.alloc (.cells #[.int .i64 (i2 : Int), .int .i64 (j2 : Int), .int .i64 (k2 : Int)] 73) = w4 at *
      have hown4 := own_below3 hown hb4
      have hbr4 := hbr.trans (hb4.mono hsw)
      generalize wr.heap.size = R at *
      have x0 : w4.cell? ⟨R, 0, none⟩ = some (.int .i64 (i2 : Int)) := by rw [Lib.cell_of_heap hR]; rfl
      have x1 : w4.cell? ⟨R, 1, none⟩ = some (.int .i64 (j2 : Int)) := by rw [Lib.cell_of_heap hR]; rfl
      have x2 : w4.cell? ⟨R, 2, none⟩ = some (.int .i64 (k2 : Int)) := by rw [Lib.cell_of_heap hR]; rfl
      go_quiet (fail)
      have hbr5 : Below w1.heap.size w1 (w4.drewN nq) := ⟨hbr4.os, hbr4.tape, hbr4.output, hbr4.size, hbr4.block⟩
      have hown5 : (w4.drewN nq).ownsRow w1.heap.size 63 5 u6 out.length (fiv out) := hown4
      clear d1 d2 d3 hR hb4 hsw hown hown4 hbr4 x0 x1 x2 hbr
      generalize w4.drewN nq = w5 at *
      have hs1 : IntKind.i64.wrap ((i2 : Int) + (k2 : Int)) = (i2 : Int) + (k2 : Int) := IntWalk.i64_in _ ⟨by omega, by omega⟩
      have hs2 : IntKind.i64.wrap ((j2 : Int) + (k2 : Int)) = (j2 : Int) + (k2 : Int) := IntWalk.i64_in _ ⟨by omega, by omega⟩
      by_cases hK : 0 < k2
      · have hK' : (0 : Int) < (k2 : Int) := by omega
        by_cases hA : i1 < i2
        · have hA' : (i1 : Int) < (i2 : Int) := by omega
          by_cases hB : j1 < j2
          · have hB' : (j1 : Int) < (j2 : Int) := by omega
            have HE : Hid (opStep (out, i1, j1) (i2, j2, k2) = ((out ++ [(⟨114, i1, i2, j1, j2⟩ : Ed)]) ++ [(⟨101, i2, i2 + k2, j2, j2 + k2⟩ : Ed)], i2 + k2, j2 + k2)) := Lib.hid (by unfold opStep tagOf; simp [hA, hB, hK])
            have hsz5 := hbr5.size
            go_wp2_with (at_builtin; go_must (refine wpList_append_own_at _ rfl _ _ 49 rfl w1.heap.size 63 i0 (.agg #[.int .u8 0, .int .i64 0, .int .i64 0, .int .i64 0, .int .i64 0]) 5 40 Tryd.underlying49 hi hz0 hz1 hz2 rfl (by decide) _ _ _ rfl (own_below3 hown5 ((Below.refl _ w5).alloc (Nat.le_refl _) _)) ⟨w5.heap.size, 0, none⟩ 1 1 [.int .u8 114, .int .i64 (i1 : Int), .int .i64 (i2 : Int), .int .i64 (j1 : Int), .int .i64 (j2 : Int)] rfl rfl (cell_five _ _ _ _ _ _ _ _ (heap_alloc_new _ _)) (by intro u hu; simp at hu; rcases hu with rfl | rfl | rfl | rfl | rfl <;> rfl) (by unfold maxLen; omega) (by omega) (by simp; omega) ?_))
            intro v6 w6 ho6' hg6 _ _
            have hb6 := ((hbr5.alloc hsz5 _).grown hg6 (by simp; omega) (fun q hq => (hown5.lt q hq).1))
            have ho6 : w6.ownsRow w1.heap.size 63 5 v6 (out ++ [(⟨114, i1, i2, j1, j2⟩ : Ed)]).length (fiv (out ++ [(⟨114, i1, i2, j1, j2⟩ : Ed)])) := by rw [fiv_snoc, List.length_append]; exact ho6'
            clear ho6' hg6 hown5 hbr5 hsz5
            have hlo6 : (out ++ [(⟨114, i1, i2, j1, j2⟩ : Ed)]).length ≤ out.length + 1 := by simp
            generalize hO : out ++ [(⟨114, i1, i2, j1, j2⟩ : Ed)] = o6 at *
            have HO := Lib.hid hO
            clear hO
            have hsz6 := hb6.size
            go_wp2_with (at_builtin; go_must (refine wpList_append_own_at _ rfl _ _ 49 rfl w1.heap.size 63 i0 (.agg #[.int .u8 0, .int .i64 0, .int .i64 0, .int .i64 0, .int .i64 0]) 5 40 Tryd.underlying49 hi hz0 hz1 hz2 rfl (by decide) _ _ _ rfl (own_below3 ho6 ((Below.refl _ w6).alloc (Nat.le_refl _) _)) ⟨w6.heap.size, 0, none⟩ 1 1 [.int .u8 101, .int .i64 (i2 : Int), .int .i64 ((i2 : Int) + (k2 : Int)), .int .i64 (j2 : Int), .int .i64 ((j2 : Int) + (k2 : Int))] rfl rfl (cell_five _ _ _ _ _ _ _ _ (heap_alloc_new _ _)) (by intro u hu; simp at hu; rcases hu with rfl | rfl | rfl | rfl | rfl <;> rfl) (by unfold maxLen; omega) (by omega) (by simp; omega) ?_))
            intro v7 w7 ho7' hg7 _ _
            have hb7 := ((hb6.alloc hsz6 _).grown hg7 (by simp; omega) (fun q hq => (ho6.lt q hq).1))
            have ho7 : w7.ownsRow w1.heap.size 63 5 v7 (o6 ++ [(⟨101, i2, i2 + k2, j2, j2 + k2⟩ : Ed)]).length (fiv (o6 ++ [(⟨101, i2, i2 + k2, j2, j2 + k2⟩ : Ed)])) := by rw [fiv_snoc, List.length_append]; exact ho7'
            go_wp2_with fail
            go_roundw
            case rel => exact ⟨t + 1, by omega, by rw [HT.out, HE.out]; exact ho7, by rw [HT.out, HE.out]; go_num, by rw [HT.out, HE.out]; go_num, by go_num, hb7⟩
            case measure => simp [intOf]; omega
          · have hB' : ¬ (j1 : Int) < (j2 : Int) := by omega
            have HE : Hid (opStep (out, i1, j1) (i2, j2, k2) = ((out ++ [(⟨100, i1, i2, j1, j2⟩ : Ed)]) ++ [(⟨101, i2, i2 + k2, j2, j2 + k2⟩ : Ed)], i2 + k2, j2 + k2)) := Lib.hid (by unfold opStep tagOf; simp [hA, hB, hK])
            have hsz5 := hbr5.size
            go_wp2_with (at_builtin; go_must (refine wpList_append_own_at _ rfl _ _ 49 rfl w1.heap.size 63 i0 (.agg #[.int .u8 0, .int .i64 0, .int .i64 0, .int .i64 0, .int .i64 0]) 5 40 Tryd.underlying49 hi hz0 hz1 hz2 rfl (by decide) _ _ _ rfl (own_below3 hown5 ((Below.refl _ w5).alloc (Nat.le_refl _) _)) ⟨w5.heap.size, 0, none⟩ 1 1 [.int .u8 100, .int .i64 (i1 : Int), .int .i64 (i2 : Int), .int .i64 (j1 : Int), .int .i64 (j2 : Int)] rfl rfl (cell_five _ _ _ _ _ _ _ _ (heap_alloc_new _ _)) (by intro u hu; simp at hu; rcases hu with rfl | rfl | rfl | rfl | rfl <;> rfl) (by unfold maxLen; omega) (by omega) (by simp; omega) ?_))
            intro v6 w6 ho6' hg6 _ _
            have hb6 := ((hbr5.alloc hsz5 _).grown hg6 (by simp; omega) (fun q hq => (hown5.lt q hq).1))
            have ho6 : w6.ownsRow w1.heap.size 63 5 v6 (out ++ [(⟨100, i1, i2, j1, j2⟩ : Ed)]).length (fiv (out ++ [(⟨100, i1, i2, j1, j2⟩ : Ed)])) := by rw [fiv_snoc, List.length_append]; exact ho6'
            clear ho6' hg6 hown5 hbr5 hsz5
            have hlo6 : (out ++ [(⟨100, i1, i2, j1, j2⟩ : Ed)]).length ≤ out.length + 1 := by simp
            generalize hO : out ++ [(⟨100, i1, i2, j1, j2⟩ : Ed)] = o6 at *
            have HO := Lib.hid hO
            clear hO
            have hsz6 := hb6.size
            go_wp2_with (at_builtin; go_must (refine wpList_append_own_at _ rfl _ _ 49 rfl w1.heap.size 63 i0 (.agg #[.int .u8 0, .int .i64 0, .int .i64 0, .int .i64 0, .int .i64 0]) 5 40 Tryd.underlying49 hi hz0 hz1 hz2 rfl (by decide) _ _ _ rfl (own_below3 ho6 ((Below.refl _ w6).alloc (Nat.le_refl _) _)) ⟨w6.heap.size, 0, none⟩ 1 1 [.int .u8 101, .int .i64 (i2 : Int), .int .i64 ((i2 : Int) + (k2 : Int)), .int .i64 (j2 : Int), .int .i64 ((j2 : Int) + (k2 : Int))] rfl rfl (cell_five _ _ _ _ _ _ _ _ (heap_alloc_new _ _)) (by intro u hu; simp at hu; rcases hu with rfl | rfl | rfl | rfl | rfl <;> rfl) (by unfold maxLen; omega) (by omega) (by simp; omega) ?_))
            intro v7 w7 ho7' hg7 _ _
            have hb7 := ((hb6.alloc hsz6 _).grown hg7 (by simp; omega) (fun q hq => (ho6.lt q hq).1))
            have ho7 : w7.ownsRow w1.heap.size 63 5 v7 (o6 ++ [(⟨101, i2, i2 + k2, j2, j2 + k2⟩ : Ed)]).length (fiv (o6 ++ [(⟨101, i2, i2 + k2, j2, j2 + k2⟩ : Ed)])) := by rw [fiv_snoc, List.length_append]; exact ho7'
            go_wp2_with fail
            go_roundw
            case rel => exact ⟨t + 1, by omega, by rw [HT.out, HE.out]; exact ho7, by rw [HT.out, HE.out]; go_num, by rw [HT.out, HE.out]; go_num, by go_num, hb7⟩
            case measure => simp [intOf]; omega
        · have hA' : ¬ (i1 : Int) < (i2 : Int) := by omega
          by_cases hB : j1 < j2
          · have hB' : (j1 : Int) < (j2 : Int) := by omega
            have HE : Hid (opStep (out, i1, j1) (i2, j2, k2) = ((out ++ [(⟨105, i1, i2, j1, j2⟩ : Ed)]) ++ [(⟨101, i2, i2 + k2, j2, j2 + k2⟩ : Ed)], i2 + k2, j2 + k2)) := Lib.hid (by unfold opStep tagOf; simp [hA, hB, hK])
            have hsz5 := hbr5.size
            go_wp2_with (at_builtin; go_must (refine wpList_append_own_at _ rfl _ _ 49 rfl w1.heap.size 63 i0 (.agg #[.int .u8 0, .int .i64 0, .int .i64 0, .int .i64 0, .int .i64 0]) 5 40 Tryd.underlying49 hi hz0 hz1 hz2 rfl (by decide) _ _ _ rfl (own_below3 hown5 ((Below.refl _ w5).alloc (Nat.le_refl _) _)) ⟨w5.heap.size, 0, none⟩ 1 1 [.int .u8 105, .int .i64 (i1 : Int), .int .i64 (i2 : Int), .int .i64 (j1 : Int), .int .i64 (j2 : Int)] rfl rfl (cell_five _ _ _ _ _ _ _ _ (heap_alloc_new _ _)) (by intro u hu; simp at hu; rcases hu with rfl | rfl | rfl | rfl | rfl <;> rfl) (by unfold maxLen; omega) (by omega) (by simp; omega) ?_))
            intro v6 w6 ho6' hg6 _ _
            have hb6 := ((hbr5.alloc hsz5 _).grown hg6 (by simp; omega) (fun q hq => (hown5.lt q hq).1))
            have ho6 : w6.ownsRow w1.heap.size 63 5 v6 (out ++ [(⟨105, i1, i2, j1, j2⟩ : Ed)]).length (fiv (out ++ [(⟨105, i1, i2, j1, j2⟩ : Ed)])) := by rw [fiv_snoc, List.length_append]; exact ho6'
            clear ho6' hg6 hown5 hbr5 hsz5
            have hlo6 : (out ++ [(⟨105, i1, i2, j1, j2⟩ : Ed)]).length ≤ out.length + 1 := by simp
            generalize hO : out ++ [(⟨105, i1, i2, j1, j2⟩ : Ed)] = o6 at *
            have HO := Lib.hid hO
            clear hO
            have hsz6 := hb6.size
            go_wp2_with (at_builtin; go_must (refine wpList_append_own_at _ rfl _ _ 49 rfl w1.heap.size 63 i0 (.agg #[.int .u8 0, .int .i64 0, .int .i64 0, .int .i64 0, .int .i64 0]) 5 40 Tryd.underlying49 hi hz0 hz1 hz2 rfl (by decide) _ _ _ rfl (own_below3 ho6 ((Below.refl _ w6).alloc (Nat.le_refl _) _)) ⟨w6.heap.size, 0, none⟩ 1 1 [.int .u8 101, .int .i64 (i2 : Int), .int .i64 ((i2 : Int) + (k2 : Int)), .int .i64 (j2 : Int), .int .i64 ((j2 : Int) + (k2 : Int))] rfl rfl (cell_five _ _ _ _ _ _ _ _ (heap_alloc_new _ _)) (by intro u hu; simp at hu; rcases hu with rfl | rfl | rfl | rfl | rfl <;> rfl) (by unfold maxLen; omega) (by omega) (by simp; omega) ?_))
            intro v7 w7 ho7' hg7 _ _
            have hb7 := ((hb6.alloc hsz6 _).grown hg7 (by simp; omega) (fun q hq => (ho6.lt q hq).1))
            have ho7 : w7.ownsRow w1.heap.size 63 5 v7 (o6 ++ [(⟨101, i2, i2 + k2, j2, j2 + k2⟩ : Ed)]).length (fiv (o6 ++ [(⟨101, i2, i2 + k2, j2, j2 + k2⟩ : Ed)])) := by rw [fiv_snoc, List.length_append]; exact ho7'
            go_wp2_with fail
            go_roundw
            case rel => exact ⟨t + 1, by omega, by rw [HT.out, HE.out]; exact ho7, by rw [HT.out, HE.out]; go_num, by rw [HT.out, HE.out]; go_num, by go_num, hb7⟩
            case measure => simp [intOf]; omega
          · have hB' : ¬ (j1 : Int) < (j2 : Int) := by omega
            have HE : Hid (opStep (out, i1, j1) (i2, j2, k2) = ((out) ++ [(⟨101, i2, i2 + k2, j2, j2 + k2⟩ : Ed)], i2 + k2, j2 + k2)) := Lib.hid (by unfold opStep tagOf; simp [hA, hB, hK])
            have hsz5 := hbr5.size
            have hlo6 : out.length ≤ out.length + 1 := by omega
            have hsz6 := hbr5.size
            go_wp2_with (at_builtin; go_must (refine wpList_append_own_at _ rfl _ _ 49 rfl w1.heap.size 63 i0 (.agg #[.int .u8 0, .int .i64 0, .int .i64 0, .int .i64 0, .int .i64 0]) 5 40 Tryd.underlying49 hi hz0 hz1 hz2 rfl (by decide) _ _ _ rfl (own_below3 hown5 ((Below.refl _ w5).alloc (Nat.le_refl _) _)) ⟨w5.heap.size, 0, none⟩ 1 1 [.int .u8 101, .int .i64 (i2 : Int), .int .i64 ((i2 : Int) + (k2 : Int)), .int .i64 (j2 : Int), .int .i64 ((j2 : Int) + (k2 : Int))] rfl rfl (cell_five _ _ _ _ _ _ _ _ (heap_alloc_new _ _)) (by intro u hu; simp at hu; rcases hu with rfl | rfl | rfl | rfl | rfl <;> rfl) (by unfold maxLen; omega) (by omega) (by simp; omega) ?_))
            intro v7 w7 ho7' hg7 _ _
            have hb7 := ((hbr5.alloc hsz6 _).grown hg7 (by simp; omega) (fun q hq => (hown5.lt q hq).1))
            have ho7 : w7.ownsRow w1.heap.size 63 5 v7 (out ++ [(⟨101, i2, i2 + k2, j2, j2 + k2⟩ : Ed)]).length (fiv (out ++ [(⟨101, i2, i2 + k2, j2, j2 + k2⟩ : Ed)])) := by rw [fiv_snoc, List.length_append]; exact ho7'
            go_wp2_with fail
            go_roundw
            case rel => exact ⟨t + 1, by omega, by rw [HT.out, HE.out]; exact ho7, by rw [HT.out, HE.out]; go_num, by rw [HT.out, HE.out]; go_num, by go_num, hb7⟩
            case measure => simp [intOf]; omega
      · have hK' : ¬ (0 : Int) < (k2 : Int) := by omega
        by_cases hA : i1 < i2
        · have hA' : (i1 : Int) < (i2 : Int) := by omega
          by_cases hB : j1 < j2
          · have hB' : (j1 : Int) < (j2 : Int) := by omega
            have HE : Hid (opStep (out, i1, j1) (i2, j2, k2) = (out ++ [(⟨114, i1, i2, j1, j2⟩ : Ed)], i2 + k2, j2 + k2)) := Lib.hid (by unfold opStep tagOf; simp [hA, hB, hK])
            have hsz5 := hbr5.size
            go_wp2_with (at_builtin; go_must (refine wpList_append_own_at _ rfl _ _ 49 rfl w1.heap.size 63 i0 (.agg #[.int .u8 0, .int .i64 0, .int .i64 0, .int .i64 0, .int .i64 0]) 5 40 Tryd.underlying49 hi hz0 hz1 hz2 rfl (by decide) _ _ _ rfl (own_below3 hown5 ((Below.refl _ w5).alloc (Nat.le_refl _) _)) ⟨w5.heap.size, 0, none⟩ 1 1 [.int .u8 114, .int .i64 (i1 : Int), .int .i64 (i2 : Int), .int .i64 (j1 : Int), .int .i64 (j2 : Int)] rfl rfl (cell_five _ _ _ _ _ _ _ _ (heap_alloc_new _ _)) (by intro u hu; simp at hu; rcases hu with rfl | rfl | rfl | rfl | rfl <;> rfl) (by unfold maxLen; omega) (by omega) (by simp; omega) ?_))
            intro v6 w6 ho6' hg6 _ _
            have hb6 := ((hbr5.alloc hsz5 _).grown hg6 (by simp; omega) (fun q hq => (hown5.lt q hq).1))
            have ho6 : w6.ownsRow w1.heap.size 63 5 v6 (out ++ [(⟨114, i1, i2, j1, j2⟩ : Ed)]).length (fiv (out ++ [(⟨114, i1, i2, j1, j2⟩ : Ed)])) := by rw [fiv_snoc, List.length_append]; exact ho6'
            clear ho6' hg6 hown5 hbr5 hsz5
            have hlo6 : (out ++ [(⟨114, i1, i2, j1, j2⟩ : Ed)]).length ≤ out.length + 1 := by simp
            generalize hO : out ++ [(⟨114, i1, i2, j1, j2⟩ : Ed)] = o6 at *
            have HO := Lib.hid hO
            clear hO
            go_wp2_with fail
            go_roundw
            case rel => exact ⟨t + 1, by omega, by rw [HT.out, HE.out]; exact ho6, by rw [HT.out, HE.out]; go_num, by rw [HT.out, HE.out]; go_num, by go_num, hb6⟩
            case measure => simp [intOf]; omega
          · have hB' : ¬ (j1 : Int) < (j2 : Int) := by omega
            have HE : Hid (opStep (out, i1, j1) (i2, j2, k2) = (out ++ [(⟨100, i1, i2, j1, j2⟩ : Ed)], i2 + k2, j2 + k2)) := Lib.hid (by unfold opStep tagOf; simp [hA, hB, hK])
            have hsz5 := hbr5.size
            go_wp2_with (at_builtin; go_must (refine wpList_append_own_at _ rfl _ _ 49 rfl w1.heap.size 63 i0 (.agg #[.int .u8 0, .int .i64 0, .int .i64 0, .int .i64 0, .int .i64 0]) 5 40 Tryd.underlying49 hi hz0 hz1 hz2 rfl (by decide) _ _ _ rfl (own_below3 hown5 ((Below.refl _ w5).alloc (Nat.le_refl _) _)) ⟨w5.heap.size, 0, none⟩ 1 1 [.int .u8 100, .int .i64 (i1 : Int), .int .i64 (i2 : Int), .int .i64 (j1 : Int), .int .i64 (j2 : Int)] rfl rfl (cell_five _ _ _ _ _ _ _ _ (heap_alloc_new _ _)) (by intro u hu; simp at hu; rcases hu with rfl | rfl | rfl | rfl | rfl <;> rfl) (by unfold maxLen; omega) (by omega) (by simp; omega) ?_))
            intro v6 w6 ho6' hg6 _ _
            have hb6 := ((hbr5.alloc hsz5 _).grown hg6 (by simp; omega) (fun q hq => (hown5.lt q hq).1))
            have ho6 : w6.ownsRow w1.heap.size 63 5 v6 (out ++ [(⟨100, i1, i2, j1, j2⟩ : Ed)]).length (fiv (out ++ [(⟨100, i1, i2, j1, j2⟩ : Ed)])) := by rw [fiv_snoc, List.length_append]; exact ho6'
            clear ho6' hg6 hown5 hbr5 hsz5
            have hlo6 : (out ++ [(⟨100, i1, i2, j1, j2⟩ : Ed)]).length ≤ out.length + 1 := by simp
            generalize hO : out ++ [(⟨100, i1, i2, j1, j2⟩ : Ed)] = o6 at *
            have HO := Lib.hid hO
            clear hO
            go_wp2_with fail
            go_roundw
            case rel => exact ⟨t + 1, by omega, by rw [HT.out, HE.out]; exact ho6, by rw [HT.out, HE.out]; go_num, by rw [HT.out, HE.out]; go_num, by go_num, hb6⟩
            case measure => simp [intOf]; omega
        · have hA' : ¬ (i1 : Int) < (i2 : Int) := by omega
          by_cases hB : j1 < j2
          · have hB' : (j1 : Int) < (j2 : Int) := by omega
            have HE : Hid (opStep (out, i1, j1) (i2, j2, k2) = (out ++ [(⟨105, i1, i2, j1, j2⟩ : Ed)], i2 + k2, j2 + k2)) := Lib.hid (by unfold opStep tagOf; simp [hA, hB, hK])
            have hsz5 := hbr5.size
            go_wp2_with (at_builtin; go_must (refine wpList_append_own_at _ rfl _ _ 49 rfl w1.heap.size 63 i0 (.agg #[.int .u8 0, .int .i64 0, .int .i64 0, .int .i64 0, .int .i64 0]) 5 40 Tryd.underlying49 hi hz0 hz1 hz2 rfl (by decide) _ _ _ rfl (own_below3 hown5 ((Below.refl _ w5).alloc (Nat.le_refl _) _)) ⟨w5.heap.size, 0, none⟩ 1 1 [.int .u8 105, .int .i64 (i1 : Int), .int .i64 (i2 : Int), .int .i64 (j1 : Int), .int .i64 (j2 : Int)] rfl rfl (cell_five _ _ _ _ _ _ _ _ (heap_alloc_new _ _)) (by intro u hu; simp at hu; rcases hu with rfl | rfl | rfl | rfl | rfl <;> rfl) (by unfold maxLen; omega) (by omega) (by simp; omega) ?_))
            intro v6 w6 ho6' hg6 _ _
            have hb6 := ((hbr5.alloc hsz5 _).grown hg6 (by simp; omega) (fun q hq => (hown5.lt q hq).1))
            have ho6 : w6.ownsRow w1.heap.size 63 5 v6 (out ++ [(⟨105, i1, i2, j1, j2⟩ : Ed)]).length (fiv (out ++ [(⟨105, i1, i2, j1, j2⟩ : Ed)])) := by rw [fiv_snoc, List.length_append]; exact ho6'
            clear ho6' hg6 hown5 hbr5 hsz5
            have hlo6 : (out ++ [(⟨105, i1, i2, j1, j2⟩ : Ed)]).length ≤ out.length + 1 := by simp
            generalize hO : out ++ [(⟨105, i1, i2, j1, j2⟩ : Ed)] = o6 at *
            have HO := Lib.hid hO
            clear hO
            go_wp2_with fail
            go_roundw
            case rel => exact ⟨t + 1, by omega, by rw [HT.out, HE.out]; exact ho6, by rw [HT.out, HE.out]; go_num, by rw [HT.out, HE.out]; go_num, by go_num, hb6⟩
            case measure => simp [intOf]; omega
          · have hB' : ¬ (j1 : Int) < (j2 : Int) := by omega
            have HE : Hid (opStep (out, i1, j1) (i2, j2, k2) = (out, i2 + k2, j2 + k2)) := Lib.hid (by unfold opStep tagOf; simp [hA, hB, hK])
            have hsz5 := hbr5.size
            have hlo6 : out.length ≤ out.length + 1 := by omega
            go_wp2_with fail
            go_roundw
            case rel => exact ⟨t + 1, by omega, by rw [HT.out, HE.out]; exact hown5, by rw [HT.out, HE.out]; go_num, by rw [HT.out, HE.out]; go_num, by go_num, hbr5⟩
            case measure => simp [intOf]; omega
    · have hkl : t = ms.length := by omega
      subst hkl
      rw [List.take_length] at *
      generalize ms.foldl opStep ([], 0, 0) = St at *
      obtain ⟨out, i1, j1⟩ := St
      simp only at hown HJ
      have hM8 := (hbr.block M hML1).trans hM1
      have hy9 : wr.cell? ⟨M, 9, none⟩ = some (.slice none 0 0) := by rw [Lib.cell_of_heap hM8]; rfl
      have hf9 : wr.frozen? ⟨M, 9, none⟩ = false := by simp [World.frozen?, hM8]
      obtain ⟨s1, s2, s3, rfl⟩ := own_shape3 hown
      have ho9 := Lib.hid hown
      have hb9 := Lib.hid ((hb1.trans (hbr.mono (Nat.le_of_lt hML1))).setCell (p := ⟨M, 9, none⟩) (Nat.le_refl M) (.slice s1 s2 s3))
      clear hown hbr hM8 hM1 hjo
      go_wp2_with fail
      go_ret
      refine ⟨⟨_, rfl, ?_⟩, hb9.out⟩
      rw [HGM.out, HJ.out]
      exact RdF.of_owns (own_set3 ho9.out (p := ⟨M, 9, none⟩) hML1 (.slice s1 s2 s3))
end Go.Proofs.YtkbppaddghfgpaaDoor
