/- GetMatchingBlocks. -/
import Derived.Test.YtkbppaddghfgpaaDoorDif9
import Derived.StillTailTactics
import Derived.Deep.RegionHeld3
import Derived.Deep.AppendLies
set_option linter.unusedVariables false
set_option linter.unusedSimpArgs false
namespace Go.Proofs.YtkbppaddghfgpaaDoor
open Go.RowKit Go.Maps

theorem nil_blocks (w : World) : (binOp BinOp.neq 66 (.slice none 0 0) (.slice none 0 0)).run Tryd.prog w = .ok (.bool false) w := by kernel_rfl
/-- A matcher of which nothing has been asked yet. -/
def Mem0 (w : World) (M : Nat) (a b : List ByteArray) (L : ByteArray → List Nat) : Prop :=
  ∃ av bv jv ju pv, Mat w M av bv jv (.map (some ju)) (.slice none 0 0) pv (.slice none 0 0) ∧ Looks w jv L ∧ w.heap[ju]? = some (.map #[] 0) ∧ RdC Value.string w av a ∧ RdC Value.string w bv b
theorem Mem0.mem {w : World} {M : Nat} {a b : List ByteArray} {L : ByteArray → List Nat} (h : Mem0 w M a b L) : Mem w M a b L := by
  obtain ⟨av, bv, jv, ju, pv, h1, h2, h3, h4, h5⟩ := h
  exact ⟨av, bv, jv, ju, _, pv, _, h1, h2, h3, h4, h5⟩

theorem mb_bound {F : Nat → Nat → Nat → Nat → Tri} {la lb : Nat} (hF : FOk F la lb) : ∀ f alo ahi blo bhi, alo ≤ ahi → ahi ≤ la → blo ≤ bhi → bhi ≤ lb → ∀ t ∈ mbF F f alo ahi blo bhi, t.1 + t.2.2 ≤ la ∧ t.2.1 + t.2.2 ≤ lb
  | 0, _, _, _, _, _, _, _, _ => by simp [mbF]
  | f + 1, alo, ahi, blo, bhi, h1, h2, h3, h4 => by
    obtain ⟨g1, g2, g3, g4⟩ := hF alo ahi blo bhi h1 h2 h3 h4
    intro t ht
    rcases Nat.eq_zero_or_pos (F alo ahi blo bhi).2.2 with h0 | h0
    · rw [mb_zero F _ _ _ _ _ h0] at ht; cases ht
    · rw [mb_pos F _ _ _ _ _ h0 (by omega), Nat.add_sub_cancel] at ht
      rcases List.mem_append.1 ht with h | h
      · split at h
        · exact mb_bound hF f _ _ _ _ (by omega) (by omega) (by omega) (by omega) t h
        · cases h
      · rcases List.mem_cons.1 h with rfl | h
        · omega
        · split at h
          · exact mb_bound hF f _ _ _ _ (by omega) (by omega) (by omega) (by omega) t h
          · cases h
theorem join_snoc (ms : List Tri) (t : Tri) : (ms ++ [t]).foldl joinStep ([], 0, 0, 0) = joinStep (ms.foldl joinStep ([], 0, 0, 0)) t := by simp
theorem join_ok {la lb : Nat} : ∀ (ms : List Tri), (∀ t ∈ ms, t.1 + t.2.2 ≤ la ∧ t.2.1 + t.2.2 ≤ lb) → ∀ s : List Tri × Tri, s.2.1 + s.2.2.2 ≤ la → s.2.2.1 + s.2.2.2 ≤ lb →
    (ms.foldl joinStep s).2.1 + (ms.foldl joinStep s).2.2.2 ≤ la ∧ (ms.foldl joinStep s).2.2.1 + (ms.foldl joinStep s).2.2.2 ≤ lb ∧ (ms.foldl joinStep s).1.length ≤ s.1.length + ms.length
  | [], _, s, h1, h2 => ⟨h1, h2, by simp⟩
  | t :: ms, h, s, h1, h2 => by
    have ht := h t (List.mem_cons_self ..)
    have key : (joinStep s t).2.1 + (joinStep s t).2.2.2 ≤ la ∧ (joinStep s t).2.2.1 + (joinStep s t).2.2.2 ≤ lb ∧ (joinStep s t).1.length ≤ s.1.length + 1 := by
      unfold joinStep
      split
      · simp only; omega
      · refine ⟨ht.1, ht.2, ?_⟩
        simp only
        split <;> simp
    obtain ⟨k1, k2, k3⟩ := key
    obtain ⟨g1, g2, g3⟩ := join_ok ms (fun t' h' => h t' (List.mem_cons_of_mem _ h')) (joinStep s t) k1 k2
    refine ⟨g1, g2, ?_⟩
    show (ms.foldl joinStep (joinStep s t)).1.length ≤ _
    rw [List.length_cons]
    omega

set_option maxHeartbeats 3200000 in
set_option maxRecDepth 100000 in
theorem blocks_any {M : Nat} {a b : List ByteArray} {L : ByteArray → List Nat} (w : World) (hm : Mem0 w M a b L) (hL : ∀ v j, j ∈ L v → b[j]? = some v)
    (hla : a.length ≤ 2147483647) (hlb : b.length ≤ 2147483647) (hsa : ∀ s ∈ a, s.size ≤ maxLen) (hsb : ∀ s ∈ b, s.size ≤ maxLen) :
    Calls Tryd.prog 25 #[.pointer (some ⟨M, 0, none⟩)] w
      fun e w' => (∃ v, e = .returned v ∧ RdT w' v (gmb a b L) ∧ ∃ av bv jv jk pv, Mat w' M av bv jv jk v pv (.slice none 0 0)) ∧ Below M w w' := by
  have HL := Lib.hid hL
  have HSA := Lib.hid hsa
  have HSB := Lib.hid hsb
  have HM := Lib.hid hm.mem
  obtain ⟨av, bv, jv, ju, pv, hM, hlk, hju, ha, hb⟩ := hm
  have hML := hM.lt
  obtain ⟨ap, acap, ab, aoff, rfl, hac, hamx, hap, hacell⟩ := ha
  obtain ⟨bp, bcap, bb, boff, rfl, hbc, hbmx, hbp, hbcell⟩ := hb
  have q0 : w.cell? ⟨M, 0, none⟩ = some (.slice ap a.length acap) := by rw [Lib.cell_of_heap hM]; rfl
  have q1 : w.cell? ⟨M, 1, none⟩ = some (.slice bp b.length bcap) := by rw [Lib.cell_of_heap hM]; rfl
  have q6 : w.cell? ⟨M, 6, none⟩ = some (.slice none 0 0) := by rw [Lib.cell_of_heap hM]; rfl
  obtain ⟨i0, hi, hz0, hz1, hz2⟩ := info_parts info_match
  have hnb := nil_blocks (w.alloc (.cells #[.pointer (some ⟨M, 0, none⟩)] 50))
  have hmf : ∀ (fn : Fn) (first cap : Array Value) (w : World), (Instr.makeFunc fn first cap).run Tryd.prog w = .ok (.func fn first cap) w := fun _ _ _ _ => rfl
  clear hL hsa hsb hlk hju hap hacell hbp hbcell
  unfold maxLen at hamx hbmx
  go_enter Tryd.func25, Tryd.ntmps25
  go_upto_region 5 with fail
  have hb1 : Below w.heap.size w ((w.alloc (.cells #[.pointer (some ⟨M, 0, none⟩)] 50)).alloc (.cells #[.func (.func 33) #[] #[.pointer (some ⟨w.heap.size, 0, none⟩), .pointer (some ⟨w.heap.size + 1, 0, none⟩)]] 80)) := ((Below.refl _ w).alloc (Nat.le_refl _) _).alloc (by simp) _
  have hC : ((w.alloc (.cells #[.pointer (some ⟨M, 0, none⟩)] 50)).alloc (.cells #[.func (.func 33) #[] #[.pointer (some ⟨w.heap.size, 0, none⟩), .pointer (some ⟨w.heap.size + 1, 0, none⟩)]] 80)).cell? ⟨w.heap.size, 0, none⟩ = some (.pointer (some ⟨M, 0, none⟩)) := by simp
  have hV : ((w.alloc (.cells #[.pointer (some ⟨M, 0, none⟩)] 50)).alloc (.cells #[.func (.func 33) #[] #[.pointer (some ⟨w.heap.size, 0, none⟩), .pointer (some ⟨w.heap.size + 1, 0, none⟩)]] 80)).cell? ⟨w.heap.size + 1, 0, none⟩ = some (.func (.func 33) #[] #[.pointer (some ⟨w.heap.size, 0, none⟩), .pointer (some ⟨w.heap.size + 1, 0, none⟩)]) := by simp
  generalize ((w.alloc (.cells #[.pointer (some ⟨M, 0, none⟩)] 50)).alloc (.cells #[.func (.func 33) #[] #[.pointer (some ⟨w.heap.size, 0, none⟩), .pointer (some ⟨w.heap.size + 1, 0, none⟩)]] 80)) = w1 at *
  generalize w.heap.size + 1 = V at *
  generalize hWS : w.heap.size = C at *
  have hclo : Clo w1 M C V a b L := ⟨HM.out.below (by rw [hWS]; exact hb1), hC, hV⟩
  have p0 : w1.cell? ⟨M, 0, none⟩ = some (.slice ap a.length acap) := (hb1.cell (p := ⟨M, 0, none⟩) hML).trans q0
  have p1 : w1.cell? ⟨M, 1, none⟩ = some (.slice bp b.length bcap) := (hb1.cell (p := ⟨M, 1, none⟩) hML).trans q1
  have HCL := Lib.hid hclo
  clear hclo q0 q1 q6 hnb
  refine wp_region_still_tail 11 (by kernel_rfl) (by kernel_rfl) ?_
  simp only [List.take_succ_cons, List.take_zero, List.drop_succ_cons, List.drop_zero]
  repeat still_step
  refine wpStill_nil ?_
  change wpList _ _ _ _ _ w1.drew
  have hbd : Below w1.heap.size w1 w1.drew := ⟨rfl, rfl, rfl, Nat.le_refl _, fun _ _ => rfl⟩
  have hown0 : w1.drew.ownsRow w1.heap.size 73 3 (.slice none 0 0) ([] : List Tri).length (thr []) := World.ownsRow_nil _ _ _ _
  go_wp2_with (go_at_call 33; go_must (refine (mb_any w1 HCL.out HL.out hla hlb HSA.out HSB.out a.length 0 a.length 0 b.length w1.drew (.slice none 0 0) [] hbd hown0 (by omega) (Nat.le_refl _) (by omega) (Nat.le_refl _) (by omega) (by simp)).mono ?_))
  rintro e w2 ⟨mv, rfl, hmv, hG⟩
  have hb2 : Below w1.heap.size w1 w2 := hG.below hbd (Nat.le_refl _) (by intro j hj; cases hj)
  rw [List.nil_append] at hmv
  have hrd := RdT.of_owns hmv
  have HB := Lib.hid (mb_bound (flm_ok (a := a) HL.out) a.length 0 a.length 0 b.length (Nat.zero_le _) (Nat.le_refl _) (Nat.zero_le _) (Nat.le_refl _))
  have hml := mb_len (flm_ok (a := a) HL.out) a.length 0 a.length 0 b.length (Nat.zero_le _) (Nat.le_refl _) (Nat.zero_le _) (Nat.le_refl _)
  have HJ : Hid (gmb a b L = joined (mbF (flm a b L) a.length 0 a.length 0 b.length) a.length b.length) := Lib.hid rfl
  generalize mbF (flm a b L) a.length 0 a.length 0 b.length = ms at *
  have hbw : Below M w w2 := (hb1.mono (by omega)).trans (hb2.mono (Nat.le_of_lt (Nat.lt_of_lt_of_le hML (hWS ▸ hb1.size))))
  have hMw1 : M < w1.heap.size := World.block_lt_of_cell? w1 ⟨M, 0, none⟩ p0
  have hM2 : Mat w2 M (.slice ap a.length acap) (.slice bp b.length bcap) jv (.map (some ju)) (.slice none 0 0) pv (.slice none 0 0) := (hb2.block M hMw1).trans ((hb1.block M hML).trans hM)
  have hC2 : w2.cell? ⟨C, 0, none⟩ = some (.pointer (some ⟨M, 0, none⟩)) := (hb2.cell (p := ⟨C, 0, none⟩) (World.block_lt_of_cell? w1 _ hC)).trans hC
  clear hmv hG hb1 hb2 hC hV p0 p1 HCL hbd hown0 hMw1 HL HSA HSB HM hM
  have hML2 := hM2.lt
  have hCL2 := World.block_lt_of_cell? w2 _ hC2
  obtain ⟨mp, mcap, mb, moff, rfl, hmc, hmmx, hmp, hmcell⟩ := hrd
  unfold maxLen at hmmx
  have HMC := Lib.hid hmcell
  clear hmcell
  go_wp2_with fail
  go_loopw [5, 6, 7, 8, 39] (fun v5 v6 v7 v8 v39 wr => ∃ t : Nat, t ≤ ms.length ∧ wr.ownsRow w2.heap.size 73 3 v5 ((ms.take t).foldl joinStep ([], 0, 0, 0)).1.length (thr ((ms.take t).foldl joinStep ([], 0, 0, 0)).1) ∧
      v6 = .int .i64 (((ms.take t).foldl joinStep ([], 0, 0, 0)).2.1 : Int) ∧ v7 = .int .i64 (((ms.take t).foldl joinStep ([], 0, 0, 0)).2.2.1 : Int) ∧ v8 = .int .i64 (((ms.take t).foldl joinStep ([], 0, 0, 0)).2.2.2 : Int) ∧ v39 = .int .i64 (t : Int) ∧ Below w2.heap.size w2 wr)
    (fun _ _ _ _ v39 _ => ms.length - (intOf v39).toNat)
  case atStart => exact ⟨0, Nat.zero_le _, World.ownsRow_made w2 #[] 0 (Nat.le_refl _) (Nat.zero_le _) rfl, rfl, rfl, rfl, rfl, (Below.refl _ w2).alloc (Nat.le_refl _) _⟩
  case round =>
    obtain ⟨t, ht, hown, rfl, rfl, rfl, rfl, hbr⟩ := hrel
    have hjo := join_ok (la := a.length) (lb := b.length) (ms.take t) (fun t' h' => HB.out t' (List.mem_of_mem_take h')) ([], 0, 0, 0) (Nat.zero_le _) (Nat.zero_le _)
    have htl : (ms.take t).length = t := by rw [List.length_take]; omega
    rw [htl, List.length_nil, Nat.zero_add] at hjo
    by_cases hlt : t < ms.length
    · obtain rfl : mp = some ⟨mb, moff, none⟩ := by
        rcases hmp with h | h
        · rw [h] at hlt; exact absurd hlt (Nat.not_lt_zero _)
        · exact h
      obtain ⟨c1, c2, c3⟩ := HMC.out t ms[t] (List.getElem?_eq_getElem hlt)
      have hbd := HB.out ms[t] (List.getElem_mem hlt)
      have HT : Hid ((ms.take (t + 1)).foldl joinStep ([], 0, 0, 0) = joinStep ((ms.take t).foldl joinStep ([], 0, 0, 0)) ms[t]) := Lib.hid (by rw [List.take_succ_eq_append_getElem hlt, join_snoc])
      have hlt' : (t : Int) < (ms.length : Int) := by omega
      generalize ms[t] = tr at *
      generalize (ms.take t).foldl joinStep ([], 0, 0, 0) = St at *
      obtain ⟨out, i1, j1, k1⟩ := St
      obtain ⟨i2, j2, k2⟩ := tr
      simp only at c1 c2 c3 hbd hown hjo HT
      obtain ⟨hj1, hj2, hj3⟩ := hjo
      have d1 := (hbr.cell (p := ⟨mb, moff + t * 3, none⟩) (World.block_lt_of_cell? w2 _ c1)).trans c1
      have d2 := (hbr.cell (p := ⟨mb, moff + t * 3 + 1, none⟩) (World.block_lt_of_cell? w2 _ c2)).trans c2
      have d3 := (hbr.cell (p := ⟨mb, moff + t * 3 + 2, none⟩) (World.block_lt_of_cell? w2 _ c3)).trans c3
      clear c1 c2 c3
      go_upto_region 11 with fail
      have hR : (wr.alloc (.cells #[.int .i64 (i2 : Int), .int .i64 (j2 : Int), .int .i64 (k2 : Int)] 73)).heap[wr.heap.size]? = some (.cells #[.int .i64 (i2 : Int), .int .i64 (j2 : Int), .int .i64 (k2 : Int)] 73) := heap_alloc_new wr _
      have hb4 : Below wr.heap.size wr (wr.alloc (.cells #[.int .i64 (i2 : Int), .int .i64 (j2 : Int), .int .i64 (k2 : Int)] 73)) := (Below.refl _ wr).alloc (Nat.le_refl _) _
      have hsw : w2.heap.size ≤ wr.heap.size := hbr.size
      generalize wr.alloc (.cells #[.int .i64 (i2 : Int), .int .i64 (j2 : Int), .int .i64 (k2 : Int)] 73) = w4 at *
      have hown4 := own_below3 hown hb4
      have hbr4 := hbr.trans (hb4.mono hsw)
      generalize wr.heap.size = R at *
      have x0 : w4.cell? ⟨R, 0, none⟩ = some (.int .i64 (i2 : Int)) := by rw [Lib.cell_of_heap hR]; rfl
      have x1 : w4.cell? ⟨R, 1, none⟩ = some (.int .i64 (j2 : Int)) := by rw [Lib.cell_of_heap hR]; rfl
      have x2 : w4.cell? ⟨R, 2, none⟩ = some (.int .i64 (k2 : Int)) := by rw [Lib.cell_of_heap hR]; rfl
      go_quiet (fail)
      have hbr5 : Below w2.heap.size w2 (w4.drewN nq) := ⟨hbr4.os, hbr4.tape, hbr4.output, hbr4.size, hbr4.block⟩
      have hown5 : (w4.drewN nq).ownsRow w2.heap.size 73 3 u5 out.length (thr out) := hown4
      clear d1 d2 d3 hR hb4 hsw hown hown4 hbr4 x0 x1 x2 hbr
      generalize w4.drewN nq = w5 at *
      have hs1 : IntKind.i64.wrap ((i1 : Int) + (k1 : Int)) = (i1 : Int) + (k1 : Int) := IntWalk.i64_in _ ⟨by omega, by omega⟩
      have hs2 : IntKind.i64.wrap ((j1 : Int) + (k1 : Int)) = (j1 : Int) + (k1 : Int) := IntWalk.i64_in _ ⟨by omega, by omega⟩
      by_cases h1 : i1 + k1 = i2
      · have h1b : ((i1 : Int) + (k1 : Int) == (i2 : Int)) = true := by simp; omega
        by_cases h2 : j1 + k1 = j2
        · have h2b : ((j1 : Int) + (k1 : Int) == (j2 : Int)) = true := by simp; omega
          have HE : Hid (joinStep (out, i1, j1, k1) (i2, j2, k2) = (out, i1, j1, k1 + k2)) := Lib.hid (by unfold joinStep; rw [if_pos ⟨h1, h2⟩])
          have HH := Lib.hid (And.intro h1 h2)
          clear h1 h2
          go_wp2_with fail
          go_roundw
          case rel => exact ⟨t + 1, by omega, by rw [HT.out, HE.out]; exact hown5, by rw [HT.out, HE.out], by rw [HT.out, HE.out], by rw [HT.out, HE.out]; have := HH.out; go_num, by go_num, hbr5⟩
          case measure => simp [intOf]; omega
        · have h2b : ((j1 : Int) + (k1 : Int) == (j2 : Int)) = false := by simp; omega
          have HH := Lib.hid h2
          have HG := Lib.hid h1
          clear h1 h2
          by_cases h3 : 0 < k1
          · have h3' : (0 : Int) < (k1 : Int) := by omega
            have HE : Hid (joinStep (out, i1, j1, k1) (i2, j2, k2) = (out ++ [(i1, j1, k1)], i2, j2, k2)) := Lib.hid (by unfold joinStep; rw [if_neg (fun h => HH.out h.2)]; simp only; rw [if_pos h3])
            have hsz5 := hbr5.size
            go_wp2_with (at_builtin; go_must (refine wpList_append_own_at _ rfl _ _ 66 rfl w2.heap.size 73 i0 (.agg #[.int .i64 0, .int .i64 0, .int .i64 0]) 3 24 Tryd.underlying66 hi hz0 hz1 hz2 rfl (by decide) _ _ _ rfl (own_below3 hown5 ((Below.refl _ w5).alloc (Nat.le_refl _) _)) ⟨w5.heap.size, 0, none⟩ 1 1 [.int .i64 (i1 : Int), .int .i64 (j1 : Int), .int .i64 (k1 : Int)] rfl rfl (cell_three _ _ _ _ _ _ (heap_alloc_new _ _)) (by intro u hu; simp at hu; rcases hu with rfl | rfl | rfl <;> rfl) (by unfold maxLen; omega) (by omega) (by simp; omega) ?_))
            intro v6 w6 ho6 hg6 _ _
            have hb6 := ((hbr5.alloc hsz5 _).grown hg6 (by simp; omega) (fun q hq => (hown5.lt q hq).1))
            go_wp2_with fail
            go_roundw
            case rel => exact ⟨t + 1, by omega, by rw [HT.out, HE.out, thr_snoc, List.length_append]; exact ho6, by rw [HT.out, HE.out], by rw [HT.out, HE.out], by rw [HT.out, HE.out], by go_num, hb6⟩
            case measure => simp [intOf]; omega
          · have h3' : ¬ (0 : Int) < (k1 : Int) := by omega
            have HE : Hid (joinStep (out, i1, j1, k1) (i2, j2, k2) = (out, i2, j2, k2)) := Lib.hid (by unfold joinStep; rw [if_neg (fun h => HH.out h.2)]; simp only; rw [if_neg h3])
            go_wp2_with fail
            go_roundw
            case rel => exact ⟨t + 1, by omega, by rw [HT.out, HE.out]; exact hown5, by rw [HT.out, HE.out], by rw [HT.out, HE.out], by rw [HT.out, HE.out], by go_num, hbr5⟩
            case measure => simp [intOf]; omega
      · have h1b : ((i1 : Int) + (k1 : Int) == (i2 : Int)) = false := by simp; omega
        have HH := Lib.hid h1
        clear h1
        by_cases h3 : 0 < k1
        · have h3' : (0 : Int) < (k1 : Int) := by omega
          have HE : Hid (joinStep (out, i1, j1, k1) (i2, j2, k2) = (out ++ [(i1, j1, k1)], i2, j2, k2)) := Lib.hid (by unfold joinStep; rw [if_neg (fun h => HH.out h.1)]; simp only; rw [if_pos h3])
          have hsz5 := hbr5.size
          go_wp2_with (at_builtin; go_must (refine wpList_append_own_at _ rfl _ _ 66 rfl w2.heap.size 73 i0 (.agg #[.int .i64 0, .int .i64 0, .int .i64 0]) 3 24 Tryd.underlying66 hi hz0 hz1 hz2 rfl (by decide) _ _ _ rfl (own_below3 hown5 ((Below.refl _ w5).alloc (Nat.le_refl _) _)) ⟨w5.heap.size, 0, none⟩ 1 1 [.int .i64 (i1 : Int), .int .i64 (j1 : Int), .int .i64 (k1 : Int)] rfl rfl (cell_three _ _ _ _ _ _ (heap_alloc_new _ _)) (by intro u hu; simp at hu; rcases hu with rfl | rfl | rfl <;> rfl) (by unfold maxLen; omega) (by omega) (by simp; omega) ?_))
          intro v6 w6 ho6 hg6 _ _
          have hb6 := ((hbr5.alloc hsz5 _).grown hg6 (by simp; omega) (fun q hq => (hown5.lt q hq).1))
          go_wp2_with fail
          go_roundw
          case rel => exact ⟨t + 1, by omega, by rw [HT.out, HE.out, thr_snoc, List.length_append]; exact ho6, by rw [HT.out, HE.out], by rw [HT.out, HE.out], by rw [HT.out, HE.out], by go_num, hb6⟩
          case measure => simp [intOf]; omega
        · have h3' : ¬ (0 : Int) < (k1 : Int) := by omega
          have HE : Hid (joinStep (out, i1, j1, k1) (i2, j2, k2) = (out, i2, j2, k2)) := Lib.hid (by unfold joinStep; rw [if_neg (fun h => HH.out h.1)]; simp only; rw [if_neg h3])
          go_wp2_with fail
          go_roundw
          case rel => exact ⟨t + 1, by omega, by rw [HT.out, HE.out]; exact hown5, by rw [HT.out, HE.out], by rw [HT.out, HE.out], by rw [HT.out, HE.out], by go_num, hbr5⟩
          case measure => simp [intOf]; omega
    · have hkl : t = ms.length := by omega
      subst hkl
      rw [List.take_length] at *
      have HJ2 : Hid (joined ms a.length b.length = joinEnd (ms.foldl joinStep ([], 0, 0, 0)) a.length b.length) := Lib.hid rfl
      generalize ms.foldl joinStep ([], 0, 0, 0) = St at *
      obtain ⟨out, i1, j1, k1⟩ := St
      simp only at hown hjo
      obtain ⟨hj1, hj2, hj3⟩ := hjo
      clear HB HMC hmp
      have HJE : Hid (joined ms a.length b.length = (if 0 < k1 then out ++ [(i1, j1, k1)] else out) ++ [(a.length, b.length, 0)]) := Lib.hid (by rw [HJ2.out]; rfl)
      go_upto_if 78 with fail
      go_cut [5] (fun v5 wx => wx.ownsRow w2.heap.size 73 3 v5 (if 0 < k1 then out ++ [(i1, j1, k1)] else out).length (thr (if 0 < k1 then out ++ [(i1, j1, k1)] else out)) ∧ Below w2.heap.size w2 wx)
      case first =>
        by_cases h3 : 0 < k1
        · have h3' : (0 : Int) < (k1 : Int) := by omega
          have hd3 : decide ((0 : Int) < (k1 : Int)) = true := by simp; omega
          have hsz5 := hbr.size
          go_wp2_with (at_builtin; go_must (refine wpList_append_own_at _ rfl _ _ 66 rfl w2.heap.size 73 i0 (.agg #[.int .i64 0, .int .i64 0, .int .i64 0]) 3 24 Tryd.underlying66 hi hz0 hz1 hz2 rfl (by decide) _ _ _ rfl (own_below3 hown ((Below.refl _ wr).alloc (Nat.le_refl _) _)) ⟨wr.heap.size, 0, none⟩ 1 1 [.int .i64 (i1 : Int), .int .i64 (j1 : Int), .int .i64 (k1 : Int)] rfl rfl (cell_three _ _ _ _ _ _ (heap_alloc_new _ _)) (by intro u hu; simp at hu; rcases hu with rfl | rfl | rfl <;> rfl) (by unfold maxLen; omega) (by omega) (by simp; omega) ?_))
          intro v6 w6 ho6 hg6 _ _
          have hb6 := ((hbr.alloc hsz5 _).grown hg6 (by simp; omega) (fun q hq => (hown.lt q hq).1))
          go_wp2_with fail
          go_meet
          case rel => rw [if_pos h3, thr_snoc, List.length_append]; exact ⟨ho6, hb6⟩
        · have h3' : ¬ (0 : Int) < (k1 : Int) := by omega
          have hd3 : decide ((0 : Int) < (k1 : Int)) = false := by simp; omega
          go_wp2_with fail
          go_meet
          case rel => rw [if_neg h3]; exact ⟨hown, hbr⟩
      case rest =>
        obtain ⟨ho7, hb7⟩ := hcut
        have hlo : (if 0 < k1 then out ++ [(i1, j1, k1)] else out).length ≤ ms.length + 1 := by
          split
          · rw [List.length_append, List.length_singleton]; omega
          · omega
        generalize (if 0 < k1 then out ++ [(i1, j1, k1)] else out) = out2 at *
        clear hown hbr hj1 hj2 hj3
        have hszc := hb7.size
        have hMC : M ≠ C := by omega
        have KS : Hid (∀ x, Below w2.heap.size w2 x → (x.cell? ⟨C, 0, none⟩ = some (.pointer (some ⟨M, 0, none⟩)) ∧ x.cell? ⟨M, 0, none⟩ = some (.slice ap a.length acap) ∧ x.cell? ⟨M, 1, none⟩ = some (.slice bp b.length bcap))) := Lib.hid (fun x hx => by
          have hMx := (hx.block M hML2).trans hM2
          exact ⟨(hx.cell (p := ⟨C, 0, none⟩) hCL2).trans hC2, by rw [Lib.cell_of_heap hMx]; rfl, by rw [Lib.cell_of_heap hMx]; rfl⟩)
        go_upto_region 20 with fail
        go_region_held3 (fun x => x.cell? ⟨C, 0, none⟩ = some (.pointer (some ⟨M, 0, none⟩)) ∧ x.cell? ⟨M, 0, none⟩ = some (.slice ap a.length acap) ∧ x.cell? ⟨M, 1, none⟩ = some (.slice bp b.length bcap))
          (first | exact KS.out _ (Below.drew hb7) | exact KS.out _ ((Below.drew hb7).alloc hszc _) | exact KS.out _ (Below.drew (hb7.alloc hszc _)) | exact KS.out _ hb8)
          ((refine step_append_lies _ (by rfl) _ _ _ (by rfl) w2.heap.size 73 i0 _ 3 24 Tryd.underlying66 hi hz0 hz1 hz2 rfl (by omega) u5 out2.length (thr out2) (by rfl) (own_below3 ho7 ((Below.drew (Below.refl _ wc)).alloc (Nat.le_refl _) _))
              ⟨wc.heap.size, 0, none⟩ 1 1 [.int .i64 (a.length : Int), .int .i64 (b.length : Int), .int .i64 0] (by rfl) (by rfl) (World.news_of_block (cs := #[.int .i64 (a.length : Int), .int .i64 (b.length : Int), .int .i64 0]) (t := 73) (fr := (0, 0)) (heap_alloc_new wc _)) (by simp [Value.oneCell'])
              (by omega) (by unfold maxLen; omega) (by omega) (by simp; omega) (wc.heap.size + 1) (by simp) ?_; intro g8 cap8 w8 ho8 hg8 hat8 hlt8
            have hb8 : Below w2.heap.size w2 w8 := ((Below.drew hb7).alloc hszc _).grown hg8 (by simp; omega) (fun q hq => (ho7.lt q hq).1)))
        have hM8 : Mat w8 M (.slice ap a.length acap) (.slice bp b.length bcap) jv (.map (some ju)) (.slice none 0 0) pv (.slice none 0 0) := (hb8.block M hML2).trans hM2
        have hC8 : w8.cell? ⟨C, 0, none⟩ = some (.pointer (some ⟨M, 0, none⟩)) := (hb8.cell (p := ⟨C, 0, none⟩) hCL2).trans hC2
        have hy6 : w8.cell? ⟨M, 6, none⟩ = some (.slice none 0 0) := by rw [Lib.cell_of_heap hM8]; rfl
        have hf6 : w8.frozen? ⟨M, 6, none⟩ = false := by simp [World.frozen?, show w8.heap[M]? = _ from hM8]
        have ho9 := Lib.hid ho8
        have hM9 := Lib.hid (hM8.set6 (.slice (some ⟨g8, 0, none⟩) (out2.length + 1) cap8))
        have hb9 := Lib.hid ((hbw.trans (hb8.mono (Nat.le_of_lt hML2))).setCell (p := ⟨M, 6, none⟩) (Nat.le_refl M) (.slice (some ⟨g8, 0, none⟩) (out2.length + 1) cap8))
        clear hM8 ho8 hM2 hC2 ho7 hb7 hb8 hg8 KS
        go_wp2_with fail
        go_ret
        refine ⟨⟨_, rfl, ?_, _, _, _, _, _, hM9.out⟩, hb9.out⟩
        have hgm : gmb a b L = out2 ++ [(a.length, b.length, 0)] := by rw [HJ.out, HJE.out]
        rw [hgm]
        have ho10 := own_set3 ho9.out (p := ⟨M, 6, none⟩) hML2 (.slice (some ⟨g8, 0, none⟩) (out2.length + 1) cap8)
        exact RdT.of_owns (by rw [thr_snoc]; exact ho10)
end Go.Proofs.YtkbppaddghfgpaaDoor
