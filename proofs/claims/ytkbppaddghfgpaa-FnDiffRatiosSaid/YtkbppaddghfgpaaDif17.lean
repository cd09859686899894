/- The reference's Blocks: adjacent blocks joined. -/
import Derived.Test.YtkbppaddghfgpaaDif16
import Derived.Laws.OwnMore
set_option linter.unusedVariables false
set_option linter.unusedSimpArgs false
namespace Go.Proofs.Ytkbppaddghfgpaa
open Go.RowKit Go.Maps

theorem mb_more {F : Nat → Nat → Nat → Nat → Tri} : ∀ f alo ahi blo bhi, ∀ t ∈ mbF F f alo ahi blo bhi, 0 < t.2.2
  | 0, _, _, _, _ => by simp [mbF]
  | f + 1, alo, ahi, blo, bhi => by
    intro t ht
    rcases Nat.eq_zero_or_pos (F alo ahi blo bhi).2.2 with h0 | h0
    · rw [mb_zero F _ _ _ _ _ h0] at ht; cases ht
    · rw [mb_pos F _ _ _ _ _ h0 (by omega), Nat.add_sub_cancel] at ht
      rcases List.mem_append.1 ht with h | h
      · split at h
        · exact mb_more f _ _ _ _ t h
        · cases h
      · rcases List.mem_cons.1 h with rfl | h
        · exact h0
        · split at h
          · exact mb_more f _ _ _ _ t h
          · cases h
/-- What has been laid out so far. -/
def curJ (s : List Tri × Tri) : List Tri := if 0 < s.2.2.2 then s.1 ++ [s.2] else s.1
theorem join_zero : ∀ (ms : List Tri), (∀ t ∈ ms, 0 < t.2.2) → ∀ s : List Tri × Tri, (s.2.2.2 = 0 → s = ([], 0, 0, 0)) → ((ms.foldl joinStep s).2.2.2 = 0 → ms.foldl joinStep s = ([], 0, 0, 0))
  | [], _, s, h => h
  | t :: ms, h, s, hs => by
    have ht := h t (List.mem_cons_self ..)
    refine join_zero ms (fun t' h' => h t' (List.mem_cons_of_mem _ h')) (joinStep s t) (fun h0 => ?_)
    unfold joinStep at h0
    split at h0
    · simp only at h0; omega
    · simp only at h0; omega
theorem join_yes {out : List Tri} {i1 j1 k1 i2 j2 k2 : Nat} (h1 : i1 + k1 = i2) (h2 : j1 + k1 = j2) : joinStep (out, i1, j1, k1) (i2, j2, k2) = (out, i1, j1, k1 + k2) := by
  unfold joinStep
  simp only
  rw [if_pos ⟨h1, h2⟩]
theorem join_no {out : List Tri} {i1 j1 k1 i2 j2 k2 : Nat} (h : ¬ (i1 + k1 = i2 ∧ j1 + k1 = j2)) (hk : 0 < k1) : joinStep (out, i1, j1, k1) (i2, j2, k2) = (out ++ [(i1, j1, k1)], i2, j2, k2) := by
  unfold joinStep
  simp only
  rw [if_neg h, if_pos hk]
theorem thr_set (out : List Tri) (i1 j1 k1 k : Nat) : (thr (out ++ [(i1, j1, k1)])).set (out.length * 3 + 2) (.int .i64 (k : Int)) = thr (out ++ [(i1, j1, k)]) := by
  rw [thr_snoc, thr_snoc, List.set_append_right _ _ (by rw [thr_len]; omega), thr_len, show out.length * 3 + 2 - out.length * 3 = 2 by omega]
  rfl
def SaidBlk (B : Nat) (ms : List Tri) (w' : World) (e : Ending) : Prop := ∃ mv, e = .returned mv ∧ w'.ownsRow B 44 3 mv ms.length (thr ms)
theorem own_shapeN {w : World} {B e size n : Nat} {v : Value} {xs : List Value} (h : w.ownsRow B e size v n xs) : ∃ a c, v = .slice a n c := by
  rcases h.2 with ⟨rfl, rfl⟩ | ⟨g, cap, cur, rfl, _⟩
  · exact ⟨_, _, rfl⟩
  · exact ⟨_, _, rfl⟩

set_option maxHeartbeats 3200000 in
set_option maxRecDepth 100000 in
theorem specBlocks {a b : List ByteArray} (v1 v2 : Value) (w : World) (hv1 : RdC Value.string w v1 a) (hv2 : RdC Value.string w v2 b) (h40 : a.length ≤ 40 ∧ b.length ≤ 40) :
    Calls Try.prog 17 #[v1, v2] w fun e w' => (∃ v, e = .returned (.tuple #[v, .bool true]) ∧ RdT w' v (gmb a b (idxL b))) ∧ Below w.heap.size w w' := by
  obtain ⟨ha40, hb40⟩ := h40
  have hc := specBlk v1 v2 (by omega) (by omega) a.length 0 a.length 0 b.length w hv1 hv2 (Nat.zero_le _) (Nat.le_refl _) (Nat.zero_le _) (Nat.le_refl _) (by omega)
  have HC : Hid (Calls Try.prog 37 #[v1, v2, .int .i64 0, .int .i64 (a.length : Int), .int .i64 0, .int .i64 (b.length : Int)] w fun e w' => SaidBlk w.heap.size (mbF (flm a b (idxL b)) a.length 0 a.length 0 b.length) w' e ∧ Below w.heap.size w w') := Lib.hid hc
  obtain ⟨x1, x3, _, _, rfl, _⟩ := hv1
  obtain ⟨y1, y3, _, _, rfl, _⟩ := hv2
  have hF : FOk (flm a b (idxL b)) a.length b.length := flm_ok (fun v j h => (mem_idx b).1 h)
  have HBD := Lib.hid (mb_bound hF a.length 0 a.length 0 b.length (Nat.zero_le _) (Nat.le_refl _) (Nat.zero_le _) (Nat.le_refl _))
  have hml := mb_len hF a.length 0 a.length 0 b.length (Nat.zero_le _) (Nat.le_refl _) (Nat.zero_le _) (Nat.le_refl _)
  have HPO := Lib.hid (mb_more (F := flm a b (idxL b)) a.length 0 a.length 0 b.length)
  have HJ : Hid (gmb a b (idxL b) = curJ ((mbF (flm a b (idxL b)) a.length 0 a.length 0 b.length).foldl joinStep ([], 0, 0, 0)) ++ [(a.length, b.length, 0)]) := Lib.hid rfl
  obtain ⟨i0, hi, hz0, hz1, hz2⟩ := info_parts info_arr
  clear hc hF
  have n1 : ¬ (40 : Int) < (a.length : Int) := by omega
  have n2 : ¬ (40 : Int) < (b.length : Int) := by omega
  go_enter Try.func17, Try.ntmps17
  go_wp2_with (go_at_call 37; go_must (refine HC.out.mono ?_))
  rintro e w1 ⟨lv, rfl, hlo⟩ hb1
  have hrd := RdT.of_owns hlo
  clear HC hlo
  generalize mbF (flm a b (idxL b)) a.length 0 a.length 0 b.length = ls at *
  obtain ⟨lp, lcap, lb, loff, rfl, hlc, hlmx, hlp, hlcell⟩ := hrd
  unfold maxLen at hlmx
  have HLC := Lib.hid hlcell
  clear hlcell
  go_wp2_with fail
  go_loopw [7, 8] (fun v7 v8 wr => ∃ t : Nat, t ≤ ls.length ∧ v8 = .int .i64 (t : Int) ∧ wr.ownsRow w1.heap.size 44 3 v7 (curJ ((ls.take t).foldl joinStep ([], 0, 0, 0))).length (thr (curJ ((ls.take t).foldl joinStep ([], 0, 0, 0)))) ∧ Below w1.heap.size w1 wr)
    (fun _ v8 _ => ls.length - (intOf v8).toNat)
  case atStart => exact ⟨0, Nat.zero_le _, rfl, World.ownsRow_nil _ _ _ _, Below.refl _ _⟩
  case round =>
    obtain ⟨t, ht, rfl, hown, hbr⟩ := hrel
    have hjo := join_ok (la := a.length) (lb := b.length) (ls.take t) (fun t' h' => HBD.out t' (List.mem_of_mem_take h')) ([], 0, 0, 0) (Nat.zero_le _) (Nat.zero_le _)
    have hjz := join_zero (ls.take t) (fun t' h' => HPO.out t' (List.mem_of_mem_take h')) ([], 0, 0, 0) (fun _ => rfl)
    have htl : (ls.take t).length = t := by rw [List.length_take]; omega
    rw [htl, List.length_nil, Nat.zero_add] at hjo
    by_cases hlt : t < ls.length
    · obtain rfl : lp = some ⟨lb, loff, none⟩ := by
        rcases hlp with h | h
        · rw [h] at hlt; exact absurd hlt (Nat.not_lt_zero _)
        · exact h
      obtain ⟨c1, c2, c3⟩ := HLC.out t ls[t] (List.getElem?_eq_getElem hlt)
      have hbd := HBD.out ls[t] (List.getElem_mem hlt)
      have hk2 := HPO.out ls[t] (List.getElem_mem hlt)
      have HT : Hid ((ls.take (t + 1)).foldl joinStep ([], 0, 0, 0) = joinStep ((ls.take t).foldl joinStep ([], 0, 0, 0)) ls[t]) := Lib.hid (by rw [List.take_succ_eq_append_getElem hlt, join_snoc])
      have hlt' : (t : Int) < (ls.length : Int) := by omega
      generalize ls[t] = tr at *
      generalize (ls.take t).foldl joinStep ([], 0, 0, 0) = St at *
      obtain ⟨out, i1, j1, k1⟩ := St
      obtain ⟨i2, j2, k2⟩ := tr
      simp only at c1 c2 c3 hbd hown hjo HT hk2 hjz
      obtain ⟨hj1, hj2, hj3⟩ := hjo
      have hlb1 := World.block_lt_of_cell? w1 _ c1
      have hlb2 := World.block_lt_of_cell? w1 _ c2
      have hlb3 := World.block_lt_of_cell? w1 _ c3
      have d1 := (hbr.cell (p := ⟨lb, loff + t * 3, none⟩) hlb1).trans c1
      have d2 := (hbr.cell (p := ⟨lb, loff + t * 3 + 1, none⟩) hlb2).trans c2
      have d3 := (hbr.cell (p := ⟨lb, loff + t * 3 + 2, none⟩) hlb3).trans c3
      rcases Nat.eq_zero_or_pos k1 with hk1 | hk1
      · have hs0 := hjz hk1
        simp only [Prod.mk.injEq] at hs0
        obtain ⟨rfl, rfl, rfl, rfl⟩ := hs0
        clear hjz
        have hcur : curJ ([], 0, 0, 0) = [] := rfl
        rw [hcur] at hown
        have HE : Hid (curJ (joinStep ([], 0, 0, 0) (i2, j2, k2)) = [] ++ [(i2, j2, k2)]) := Lib.hid (by
          unfold joinStep curJ
          by_cases hz : 0 = i2 ∧ 0 = j2
          · obtain ⟨rfl, rfl⟩ := hz
            simp [hk2]
          · simp [hz, hk2])
        obtain ⟨sa, sc, hsv⟩ := own_shapeN hown
        subst hsv
        have hm1 : ¬ (0 : Int) ≤ -1 := by decide
        go_upto_region 9 with fail
        go_quiet (fail)
        have hbq : Below w1.heap.size w1 (wr.drewN nq) := ⟨hbr.os, hbr.tape, hbr.output, hbr.size, hbr.block⟩
        have howq := own_below3 hown (show Below wr.heap.size wr (wr.drewN nq) from ⟨rfl, rfl, rfl, Nat.le_refl _, fun _ _ => rfl⟩)
        have d1' := (hbq.cell (p := ⟨lb, loff + t * 3, none⟩) hlb1).trans c1
        have d2' := (hbq.cell (p := ⟨lb, loff + t * 3 + 1, none⟩) hlb2).trans c2
        have d3' := (hbq.cell (p := ⟨lb, loff + t * 3 + 2, none⟩) hlb3).trans c3
        clear d1 d2 d3 hown hbr 
        generalize wr.drewN nq = w5 at *
        have hsz5 := hbq.size
        go_wp2_with (at_builtin; go_must (refine wpList_append_own_at _ rfl _ _ 39 rfl w1.heap.size 44 i0 (.agg #[.int .i64 0, .int .i64 0, .int .i64 0]) 3 24 Try.underlying39 hi hz0 hz1 hz2 rfl (by decide) _ _ _ rfl (own_below3 howq ((Below.refl _ w5).alloc (Nat.le_refl _) _)) ⟨w5.heap.size, 0, none⟩ 1 1 [.int .i64 (i2 : Int), .int .i64 (j2 : Int), .int .i64 (k2 : Int)] rfl rfl (cell_three _ _ _ _ _ _ (heap_alloc_new _ _)) (by intro u hu; simp at hu; rcases hu with rfl | rfl | rfl <;> rfl) (by unfold maxLen; omega) (by omega) (by simp; omega) ?_))
        intro v6 w6 ho6 hg6 _ _
        have hb6 := ((hbq.alloc hsz5 _).grown hg6 (by simp; omega) (fun q hq => (howq.lt q hq).1))
        go_wp2_with fail
        go_roundw
        case rel => exact ⟨t + 1, by omega, by go_num, by rw [HT.out, HE.out, thr_snoc, List.length_append]; exact ho6, hb6⟩
        case measure => simp [intOf]; omega
      · clear hjz
        have hcur : curJ (out, i1, j1, k1) = out ++ [(i1, j1, k1)] := by unfold curJ; simp only; rw [if_pos hk1]
        rw [hcur] at hown
        have hl1 : (out ++ [(i1, j1, k1)]).length = out.length + 1 := by simp
        rw [hl1] at hown
        obtain ⟨sa, sc, hsv⟩ := own_shapeN hown
        obtain ⟨g, cap, hgv⟩ : ∃ g cap, sa = some ⟨g, 0, none⟩ ∧ sc = cap := by
          rcases own_form hown with ⟨h1, h2⟩ | ⟨g, cap, h1, h2⟩
          · simp at h2
          · rw [hsv] at h1
            injection h1 with h3 h4 h5
            exact ⟨g, sc, h3, rfl⟩
        obtain ⟨rfl, rfl⟩ := hgv
        subst hsv
        clear hcur hl1
        have ht3 : (thr out).length = out.length * 3 := thr_len out
        have e1 : wr.cell? ⟨g, out.length * 3, none⟩ = some (.int .i64 (i1 : Int)) := by
          rw [hown.cellAt _ (by omega), thr_snoc, List.getElem?_append_right (by omega), ht3, Nat.sub_self]; rfl
        have e2 : wr.cell? ⟨g, out.length * 3 + 1, none⟩ = some (.int .i64 (j1 : Int)) := by
          rw [hown.cellAt _ (by omega), thr_snoc, List.getElem?_append_right (by omega), ht3, show out.length * 3 + 1 - out.length * 3 = 1 by omega]; rfl
        have e3 : wr.cell? ⟨g, out.length * 3 + 2, none⟩ = some (.int .i64 (k1 : Int)) := by
          rw [hown.cellAt _ (by omega), thr_snoc, List.getElem?_append_right (by omega), ht3, show out.length * 3 + 2 - out.length * 3 = 2 by omega]; rfl
        have hw1 : IntKind.i64.wrap ((i1 : Int) + (k1 : Int)) = (i1 : Int) + (k1 : Int) := IntWalk.i64_in _ ⟨by omega, by omega⟩
        have hw2 : IntKind.i64.wrap ((j1 : Int) + (k1 : Int)) = (j1 : Int) + (k1 : Int) := IntWalk.i64_in _ ⟨by omega, by omega⟩
        have hw3 : IntKind.i64.wrap ((k1 : Int) + (k2 : Int)) = (k1 : Int) + (k2 : Int) := IntWalk.i64_in _ ⟨by omega, by omega⟩
        by_cases h1 : i1 + k1 = i2
        · have h1b : ((i1 : Int) + (k1 : Int) == (i2 : Int)) = true := by simp; omega
          by_cases h2 : j1 + k1 = j2
          · have h2b : ((j1 : Int) + (k1 : Int) == (j2 : Int)) = true := by simp; omega
            have HE : Hid (curJ (joinStep (out, i1, j1, k1) (i2, j2, k2)) = out ++ [(i1, j1, k1 + k2)]) := Lib.hid (by
              rw [join_yes h1 h2]
              unfold curJ
              simp only
              rw [if_pos (by omega)])
            have HH := Lib.hid (And.intro h1 h2)
            clear h1 h2
            go_upto_region 9 with fail
            go_quiet (fail)
            have hbq : Below w1.heap.size w1 (wr.drewN nq) := ⟨hbr.os, hbr.tape, hbr.output, hbr.size, hbr.block⟩
            have howq := own_below3 hown (show Below wr.heap.size wr (wr.drewN nq) from ⟨rfl, rfl, rfl, Nat.le_refl _, fun _ _ => rfl⟩)
            have d3' : (wr.drewN nq).cell? ⟨lb, loff + t * 3 + 2, none⟩ = some (.int .i64 (k2 : Int)) := d3
            have e3' : (wr.drewN nq).cell? ⟨g, out.length * 3 + 2, none⟩ = some (.int .i64 (k1 : Int)) := e3
            clear d1 d2 d3 e1 e2 e3 hown hbr
            generalize wr.drewN nq = w5 at *
            have hI0 : (0 : Int) ≤ (out.length : Int) := by omega
            have hI1 : (out.length : Int) < (out.length : Int) + 1 := by omega
            have hI2 : (out.length : Int) < ((out.length + 1 : Nat) : Int) := by omega
            go_upto_region 10 with fail
            refine wp_region_still_tail 15 (by kernel_rfl) (by kernel_rfl) ?_
            simp only [List.take_succ_cons, List.take_zero, List.drop_succ_cons, List.drop_zero]
            repeat still_step
            refine wpStill_nil ?_
            change wpList _ _ _ _ _ w5.drew
            have hbq2 : Below w1.heap.size w1 w5.drew := ⟨hbq.os, hbq.tape, hbq.output, hbq.size, hbq.block⟩
            have how2 := own_below3 howq (show Below w5.heap.size w5 w5.drew from ⟨rfl, rfl, rfl, Nat.le_refl _, fun _ _ => rfl⟩)
            have e3'' : w5.drew.cell? ⟨g, out.length * 3 + 2, none⟩ = some (.int .i64 (k1 : Int)) := e3'
            clear d3' e3' howq hbq
            generalize w5.drew = w6 at *
            have hfr := how2.frozenAt (out.length * 3 + 2)
            have hst := (how2.stored (out.length * 3 + 2) (.int .i64 ((k1 + k2 : Nat) : Int))).1
            rw [thr_set] at hst
            have hgb := (how2.lt g rfl).1
            have HST := Lib.hid hst
            clear hst
            go_wp2_with fail
            go_roundw
            case rel => exact ⟨t + 1, by omega, by go_num, by rw [HT.out, HE.out, List.length_append]; exact HST.out, hbq2.setCell (p := ⟨g, out.length * 3 + 2, none⟩) hgb _⟩
            case measure => simp [intOf]; omega
          · have h2b : ((j1 : Int) + (k1 : Int) == (j2 : Int)) = false := by simp; omega
            have HE : Hid (curJ (joinStep (out, i1, j1, k1) (i2, j2, k2)) = (out ++ [(i1, j1, k1)]) ++ [(i2, j2, k2)]) := Lib.hid (by
              rw [join_no (fun h => h2 h.2) hk1]
              unfold curJ
              simp only
              rw [if_pos hk2])
            have HG := Lib.hid h1
            have HH := Lib.hid h2
            clear h1 h2
            go_upto_region 9 with fail
            go_quiet (fail)
            have hbq : Below w1.heap.size w1 (wr.drewN nq) := ⟨hbr.os, hbr.tape, hbr.output, hbr.size, hbr.block⟩
            have howq := own_below3 hown (show Below wr.heap.size wr (wr.drewN nq) from ⟨rfl, rfl, rfl, Nat.le_refl _, fun _ _ => rfl⟩)
            have d1' := (hbq.cell (p := ⟨lb, loff + t * 3, none⟩) hlb1).trans c1
            have d2' := (hbq.cell (p := ⟨lb, loff + t * 3 + 1, none⟩) hlb2).trans c2
            have d3' := (hbq.cell (p := ⟨lb, loff + t * 3 + 2, none⟩) hlb3).trans c3
            clear d1 d2 d3 hown hbr e1 e2 e3
            generalize wr.drewN nq = w5 at *
            have hsz5 := hbq.size
            go_wp2_with (at_builtin; go_must (refine wpList_append_own_at _ rfl _ _ 39 rfl w1.heap.size 44 i0 (.agg #[.int .i64 0, .int .i64 0, .int .i64 0]) 3 24 Try.underlying39 hi hz0 hz1 hz2 rfl (by decide) _ _ _ rfl (own_below3 howq ((Below.refl _ w5).alloc (Nat.le_refl _) _)) ⟨w5.heap.size, 0, none⟩ 1 1 [.int .i64 (i2 : Int), .int .i64 (j2 : Int), .int .i64 (k2 : Int)] rfl rfl (cell_three _ _ _ _ _ _ (heap_alloc_new _ _)) (by intro u hu; simp at hu; rcases hu with rfl | rfl | rfl <;> rfl) (by unfold maxLen; omega) (by omega) (by simp; omega) ?_))
            intro v6 w6 ho6 hg6 _ _
            have hb6 := ((hbq.alloc hsz5 _).grown hg6 (by simp; omega) (fun q hq => (howq.lt q hq).1))
            go_wp2_with fail
            go_roundw
            case rel => exact ⟨t + 1, by omega, by go_num, by rw [HT.out, HE.out, thr_snoc, List.length_append, List.length_append]; exact ho6, hb6⟩
            case measure => simp [intOf]; omega
        · have h1b : ((i1 : Int) + (k1 : Int) == (i2 : Int)) = false := by simp; omega
          have HE : Hid (curJ (joinStep (out, i1, j1, k1) (i2, j2, k2)) = (out ++ [(i1, j1, k1)]) ++ [(i2, j2, k2)]) := Lib.hid (by
            rw [join_no (fun h => h1 h.1) hk1]
            unfold curJ
            simp only
            rw [if_pos hk2])
          have HH := Lib.hid h1
          clear h1
          go_upto_region 9 with fail
          go_quiet (fail)
          have hbq : Below w1.heap.size w1 (wr.drewN nq) := ⟨hbr.os, hbr.tape, hbr.output, hbr.size, hbr.block⟩
          have howq := own_below3 hown (show Below wr.heap.size wr (wr.drewN nq) from ⟨rfl, rfl, rfl, Nat.le_refl _, fun _ _ => rfl⟩)
          have d1' := (hbq.cell (p := ⟨lb, loff + t * 3, none⟩) hlb1).trans c1
          have d2' := (hbq.cell (p := ⟨lb, loff + t * 3 + 1, none⟩) hlb2).trans c2
          have d3' := (hbq.cell (p := ⟨lb, loff + t * 3 + 2, none⟩) hlb3).trans c3
          clear d1 d2 d3 hown hbr e1 e2 e3
          generalize wr.drewN nq = w5 at *
          have hsz5 := hbq.size
          go_wp2_with (at_builtin; go_must (refine wpList_append_own_at _ rfl _ _ 39 rfl w1.heap.size 44 i0 (.agg #[.int .i64 0, .int .i64 0, .int .i64 0]) 3 24 Try.underlying39 hi hz0 hz1 hz2 rfl (by decide) _ _ _ rfl (own_below3 howq ((Below.refl _ w5).alloc (Nat.le_refl _) _)) ⟨w5.heap.size, 0, none⟩ 1 1 [.int .i64 (i2 : Int), .int .i64 (j2 : Int), .int .i64 (k2 : Int)] rfl rfl (cell_three _ _ _ _ _ _ (heap_alloc_new _ _)) (by intro u hu; simp at hu; rcases hu with rfl | rfl | rfl <;> rfl) (by unfold maxLen; omega) (by omega) (by simp; omega) ?_))
          intro v6 w6 ho6 hg6 _ _
          have hb6 := ((hbq.alloc hsz5 _).grown hg6 (by simp; omega) (fun q hq => (howq.lt q hq).1))
          go_wp2_with fail
          go_roundw
          case rel => exact ⟨t + 1, by omega, by go_num, by rw [HT.out, HE.out, thr_snoc, List.length_append, List.length_append]; exact ho6, hb6⟩
          case measure => simp [intOf]; omega
    · have hkl : t = ls.length := by omega
      subst hkl
      rw [List.take_length] at *
      have hlcur : (curJ (ls.foldl joinStep ([], 0, 0, 0))).length ≤ ls.length + 1 := by
        unfold curJ
        split
        · rw [List.length_append, List.length_singleton]; omega
        · omega
      generalize curJ (ls.foldl joinStep ([], 0, 0, 0)) = cu at *
      have hszr := hbr.size
      go_wp2_with (at_builtin; go_must (refine wpList_append_own_at _ rfl _ _ 39 rfl w1.heap.size 44 i0 (.agg #[.int .i64 0, .int .i64 0, .int .i64 0]) 3 24 Try.underlying39 hi hz0 hz1 hz2 rfl (by decide) _ _ _ rfl (own_below3 hown ((Below.refl _ wr).alloc (Nat.le_refl _) _)) ⟨wr.heap.size, 0, none⟩ 1 1 [.int .i64 (a.length : Int), .int .i64 (b.length : Int), .int .i64 0] rfl rfl (cell_three _ _ _ _ _ _ (heap_alloc_new _ _)) (by intro u hu; simp at hu; rcases hu with rfl | rfl | rfl <;> rfl) (by unfold maxLen; omega) (by omega) (by simp; omega) ?_))
      intro v6 w6 ho6 hg6 _ _
      have hb6 := ((hbr.alloc hszr _).grown hg6 (by simp; omega) (fun q hq => (hown.lt q hq).1))
      have ho7 := Lib.hid ho6
      clear ho6
      go_wp2_with fail
      go_ret2
      refine ⟨⟨_, rfl, ?_⟩, hb1.trans (hb6.mono hb1.size)⟩
      rw [HJ.out]
      exact RdT.of_owns (by rw [thr_snoc]; exact ho7.out)
end Go.Proofs.Ytkbppaddghfgpaa
