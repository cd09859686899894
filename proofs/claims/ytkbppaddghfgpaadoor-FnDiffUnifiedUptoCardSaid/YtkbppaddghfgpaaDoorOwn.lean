/- Edits copied: the copies lie in rows of their own. -/
import Derived.Test.YtkbppaddghfgpaaDoorDif22D
set_option linter.unusedVariables false
set_option linter.unusedSimpArgs false
namespace Go.Proofs.YtkbppaddghfgpaaDoor
open Go.RowKit Go.Maps

set_option maxHeartbeats 3200000 in
set_option maxRecDepth 100000 in
theorem implEditsO (v : Value) (ts : List Ed) (w : World) (hv : RdF w v ts) (hl : ts.length ≤ 8589934592) :
    Calls Tryd.prog 16 #[v] w fun e w' => (∃ v', e = .returned v' ∧ w'.ownsRow w.heap.size 34 5 v' ts.length (fiv ts)) ∧ Below w.heap.size w w' := by
  obtain ⟨i0, hi, hz0, hz1, hz2⟩ := info_parts info_edit
  obtain ⟨mp, mcap, mb, moff, rfl, hmc, hmmx, hmp, hmcell⟩ := hv
  unfold maxLen at hmmx
  have HMC := Lib.hid hmcell
  clear hmcell
  go_enter Tryd.func16, Tryd.ntmps16
  go_wp2_with fail
  go_loopw [3, 8] (fun v5 v13 wr => ∃ t : Nat, t ≤ ts.length ∧ wr.ownsRow w.heap.size 34 5 v5 t (fiv (ts.take t)) ∧ v13 = .int .i64 (t : Int) ∧ Below w.heap.size w wr)
    (fun _ v13 _ => ts.length - (intOf v13).toNat)
  case atStart => exact ⟨0, Nat.zero_le _, World.ownsRow_nil _ _ _ _, rfl, Below.refl _ _⟩
  case round =>
    obtain ⟨t, ht, hown, rfl, hbr⟩ := hrel
    by_cases hlt : t < ts.length
    · obtain rfl : mp = some ⟨mb, moff, none⟩ := by
        rcases hmp with h | h
        · rw [h] at hlt; exact absurd hlt (Nat.not_lt_zero _)
        · exact h
      obtain ⟨c0, c1, c2, c3, c4⟩ := HMC.out t ts[t] (List.getElem?_eq_getElem hlt)
      have HT : Hid (fiv (ts.take (t + 1)) = fiv (ts.take t) ++ [.int .u8 (ts[t].tag : Int), .int .i64 (ts[t].i1 : Int), .int .i64 (ts[t].i2 : Int), .int .i64 (ts[t].j1 : Int), .int .i64 (ts[t].j2 : Int)]) := Lib.hid (by rw [List.take_succ_eq_append_getElem hlt, fiv_snoc])
      generalize ts[t] = tr at *
      obtain ⟨tg, i1, i2, j1, j2⟩ := tr
      simp only at c0 c1 c2 c3 c4 HT
      have d0 := (hbr.cell (p := ⟨mb, moff + t * 5, none⟩) (World.block_lt_of_cell? w _ c0)).trans c0
      have d1 := (hbr.cell (p := ⟨mb, moff + t * 5 + 1, none⟩) (World.block_lt_of_cell? w _ c1)).trans c1
      have d2 := (hbr.cell (p := ⟨mb, moff + t * 5 + 2, none⟩) (World.block_lt_of_cell? w _ c2)).trans c2
      have d3 := (hbr.cell (p := ⟨mb, moff + t * 5 + 3, none⟩) (World.block_lt_of_cell? w _ c3)).trans c3
      have d4 := (hbr.cell (p := ⟨mb, moff + t * 5 + 4, none⟩) (World.block_lt_of_cell? w _ c4)).trans c4
      clear c0 c1 c2 c3 c4
      have hszr := hbr.size
      go_wp2_with (at_builtin; go_must (refine wpList_append_own_at _ rfl _ _ 31 rfl w.heap.size 34 i0 (.agg #[.int .u8 0, .int .i64 0, .int .i64 0, .int .i64 0, .int .i64 0]) 5 40 Tryd.underlying31 hi hz0 hz1 hz2 rfl (by decide) _ _ _ rfl (own_below3 hown (((Below.refl _ wr).alloc (Nat.le_refl _) _).alloc (by simp) _)) ⟨wr.heap.size + 1, 0, none⟩ 1 1 [.int .u8 (tg : Int), .int .i64 (i1 : Int), .int .i64 (i2 : Int), .int .i64 (j1 : Int), .int .i64 (j2 : Int)] rfl rfl (cell_five _ _ _ _ _ _ _ _ (heap_alloc2_new _ _ _)) (by intro u hu; simp at hu; rcases hu with rfl | rfl | rfl | rfl | rfl <;> rfl) (by unfold maxLen; omega) (by omega) (by simp; omega) ?_))
      intro v6 w6 ho6 hg6 _ _
      have hb6 := (((hbr.alloc hszr _).alloc (by simp; omega) _).grown hg6 (by simp; omega) (fun q hq => (hown.lt q hq).1))
      go_wp2_with fail
      go_roundw
      case rel => exact ⟨t + 1, by omega, by rw [HT.out]; exact ho6, by go_num, hb6⟩
      case measure => simp [intOf]; omega
    · have hkl : t = ts.length := by omega
      subst hkl
      rw [List.take_length] at *
      go_wp2_with fail
      go_ret
      exact ⟨⟨_, rfl, hown⟩, hbr⟩
set_option maxHeartbeats 3200000 in
set_option maxRecDepth 100000 in
theorem editsFromO (v : Value) (ts : List Ed) (w : World) (hv : RdF w v ts) (hl : ts.length ≤ 8589934592) :
    Calls Tryd.prog 15 #[v] w fun e w' => (∃ v', e = .returned v' ∧ w'.ownsRow w.heap.size 42 5 v' ts.length (fiv ts)) ∧ Below w.heap.size w w' := by
  obtain ⟨i0, hi, hz0, hz1, hz2⟩ := info_parts info_sedit
  obtain ⟨mp, mcap, mb, moff, rfl, hmc, hmmx, hmp, hmcell⟩ := hv
  unfold maxLen at hmmx
  have HMC := Lib.hid hmcell
  clear hmcell
  go_enter Tryd.func15, Tryd.ntmps15
  go_wp2_with fail
  go_loopw [3, 4] (fun v5 v13 wr => ∃ t : Nat, t ≤ ts.length ∧ wr.ownsRow w.heap.size 42 5 v5 t (fiv (ts.take t)) ∧ v13 = .int .i64 (t : Int) ∧ Below w.heap.size w wr)
    (fun _ v13 _ => ts.length - (intOf v13).toNat)
  case atStart => exact ⟨0, Nat.zero_le _, World.ownsRow_nil _ _ _ _, rfl, Below.refl _ _⟩
  case round =>
    obtain ⟨t, ht, hown, rfl, hbr⟩ := hrel
    by_cases hlt : t < ts.length
    · have hlt' : (t : Int) < (ts.length : Int) := by omega
      obtain rfl : mp = some ⟨mb, moff, none⟩ := by
        rcases hmp with h | h
        · rw [h] at hlt; exact absurd hlt (Nat.not_lt_zero _)
        · exact h
      obtain ⟨c0, c1, c2, c3, c4⟩ := HMC.out t ts[t] (List.getElem?_eq_getElem hlt)
      have HT : Hid (fiv (ts.take (t + 1)) = fiv (ts.take t) ++ [.int .u8 (ts[t].tag : Int), .int .i64 (ts[t].i1 : Int), .int .i64 (ts[t].i2 : Int), .int .i64 (ts[t].j1 : Int), .int .i64 (ts[t].j2 : Int)]) := Lib.hid (by rw [List.take_succ_eq_append_getElem hlt, fiv_snoc])
      generalize ts[t] = tr at *
      obtain ⟨tg, i1, i2, j1, j2⟩ := tr
      simp only at c0 c1 c2 c3 c4 HT
      have d0 := (hbr.cell (p := ⟨mb, moff + t * 5, none⟩) (World.block_lt_of_cell? w _ c0)).trans c0
      have d1 := (hbr.cell (p := ⟨mb, moff + t * 5 + 1, none⟩) (World.block_lt_of_cell? w _ c1)).trans c1
      have d2 := (hbr.cell (p := ⟨mb, moff + t * 5 + 2, none⟩) (World.block_lt_of_cell? w _ c2)).trans c2
      have d3 := (hbr.cell (p := ⟨mb, moff + t * 5 + 3, none⟩) (World.block_lt_of_cell? w _ c3)).trans c3
      have d4 := (hbr.cell (p := ⟨mb, moff + t * 5 + 4, none⟩) (World.block_lt_of_cell? w _ c4)).trans c4
      clear c0 c1 c2 c3 c4
      go_wp2_with (go_at_call 23; go_must (refine (editFrom tg i1 i2 j1 j2 _).mono ?_))
      rintro e w5 rfl hb5
      have hbr5 := hbr.trans (hb5.mono hbr.size)
      have hown5 := own_below3 hown hb5
      clear d0 d1 d2 d3 d4 hbr hown hb5
      have hszr := hbr5.size
      go_wp2_with (at_builtin; go_must (refine wpList_append_own_at _ rfl _ _ 41 rfl w.heap.size 42 i0 (.agg #[.int .u8 0, .int .i64 0, .int .i64 0, .int .i64 0, .int .i64 0]) 5 40 Tryd.underlying41 hi hz0 hz1 hz2 rfl (by decide) _ _ _ rfl (own_below3 hown5 ((Below.refl _ w5).alloc (Nat.le_refl _) _)) ⟨w5.heap.size, 0, none⟩ 1 1 [.int .u8 (tg : Int), .int .i64 (i1 : Int), .int .i64 (i2 : Int), .int .i64 (j1 : Int), .int .i64 (j2 : Int)] rfl rfl (cell_five _ _ _ _ _ _ _ _ (heap_alloc_new _ _)) (by intro u hu; simp at hu; rcases hu with rfl | rfl | rfl | rfl | rfl <;> rfl) (by unfold maxLen; omega) (by omega) (by simp; omega) ?_))
      intro v6 w6 ho6 hg6 _ _
      have hb6 := ((hbr5.alloc hszr _).grown hg6 (by simp; omega) (fun q hq => (hown5.lt q hq).1))
      go_wp2_with fail
      go_roundw
      case rel => exact ⟨t + 1, by omega, by rw [HT.out]; exact ho6, by go_num, hb6⟩
      case measure => simp [intOf]; omega
    · have hlt' : ¬ (t : Int) < (ts.length : Int) := by omega
      have hkl : t = ts.length := by omega
      subst hkl
      rw [List.take_length] at *
      go_wp2_with fail
      go_ret
      exact ⟨⟨_, rfl, hown⟩, hbr⟩

end Go.Proofs.YtkbppaddghfgpaaDoor
