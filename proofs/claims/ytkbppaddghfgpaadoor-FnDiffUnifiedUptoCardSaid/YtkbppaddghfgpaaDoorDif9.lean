/- The closure that finds the blocks. -/
import Derived.Test.YtkbppaddghfgpaaDoorDif7
import Derived.Test.YtkbppaddghfgpaaDoorDif8
import Derived.Maps.AppendAt
import Derived.Deep.DeepCutAuto
import Derived.BigQuiet
set_option linter.unusedVariables false
set_option linter.unusedSimpArgs false
namespace Go.Proofs.YtkbppaddghfgpaaDoor
open Go.RowKit Go.Maps

/-- The closure, captured by itself: C holds the matcher's address, V the closure. -/
structure Clo (w : World) (M C V : Nat) (a b : List ByteArray) (L : ByteArray → List Nat) : Prop where
  mem : Mem w M a b L
  c : w.cell? ⟨C, 0, none⟩ = some (.pointer (some ⟨M, 0, none⟩))
  v : w.cell? ⟨V, 0, none⟩ = some (.func (.func 33) #[] #[.pointer (some ⟨C, 0, none⟩), .pointer (some ⟨V, 0, none⟩)])
theorem Clo.below {w w' : World} {M C V : Nat} {a b : List ByteArray} {L : ByteArray → List Nat} (h : Clo w M C V a b L) (hb : Below w.heap.size w w') : Clo w' M C V a b L :=
  ⟨h.mem.below hb, (hb.cell (p := ⟨C, 0, none⟩) (World.block_lt_of_cell? w _ h.c)).trans h.c, (hb.cell (p := ⟨V, 0, none⟩) (World.block_lt_of_cell? w _ h.v)).trans h.v⟩

set_option maxHeartbeats 3200000 in
set_option maxRecDepth 100000 in
theorem mb_any {M C V : Nat} {a b : List ByteArray} {L : ByteArray → List Nat} (w1 : World) (hc : Clo w1 M C V a b L) (hL : ∀ v j, j ∈ L v → b[j]? = some v)
    (hla : a.length ≤ 2147483647) (hlb : b.length ≤ 2147483647) (hsa : ∀ s ∈ a, s.size ≤ maxLen) (hsb : ∀ s ∈ b, s.size ≤ maxLen) :
    ∀ (f alo ahi blo bhi : Nat) (w : World) (mv : Value) (ms : List Tri), Below w1.heap.size w1 w → w.ownsRow w1.heap.size 73 3 mv ms.length (thr ms) →
      alo ≤ ahi → ahi ≤ a.length → blo ≤ bhi → bhi ≤ b.length → ahi - alo ≤ f → ms.length ≤ alo →
    Calls Tryd.prog 33 #[.int .i64 (alo : Int), .int .i64 (ahi : Int), .int .i64 (blo : Int), .int .i64 (bhi : Int), mv, .pointer (some ⟨C, 0, none⟩), .pointer (some ⟨V, 0, none⟩)] w
      fun e w' => (∃ mv', e = .returned mv' ∧ w'.ownsRow w1.heap.size 73 3 mv' (ms ++ mbF (flm a b L) f alo ahi blo bhi).length (thr (ms ++ mbF (flm a b L) f alo ahi blo bhi)) ∧ Grew w mv w' mv') := by
  have HL := Lib.hid hL
  have HSA := Lib.hid hsa
  have HSB := Lib.hid hsb
  have HC := Lib.hid (fun w' (h : Below w1.heap.size w1 w') => hc.below h)
  have HOK := Lib.hid (flm_ok (a := a) hL)
  have HLEN := Lib.hid (mb_len (flm_ok (a := a) hL))
  obtain ⟨i0, hi, hz0, hz1, hz2⟩ := info_parts info_match
  clear hL hsa hsb hc
  intro f
  induction f using Nat.strongRecOn with
  | _ f ih =>
    intro alo ahi blo bhi w mv ms hb0 hown haa hah hbb hbh hf hms
    have IH := Lib.hid ih
    clear ih
    obtain ⟨hm, k5, k6⟩ := HC.out w hb0
    have HM := Lib.hid hm
    clear hm
    have hFK := HOK.out alo ahi blo bhi haa hah hbb hbh
    go_enter Tryd.func33, Tryd.ntmps33
    go_wp2_with (go_at_call 34; go_must (refine (flm_any alo ahi blo bhi w HM.out HL.out haa hah hbb hbh hla hlb HSA.out HSB.out).mono ?_))
    have HZ := Lib.hid (mb_zero (flm a b L) f alo ahi blo bhi)
    have HP := Lib.hid (fun h => mb_pos (flm a b L) f alo ahi blo bhi h)
    generalize flm a b L alo ahi blo bhi = t at *
    obtain ⟨i, j, k⟩ := t
    simp only at hFK HZ HP
    obtain ⟨g1, g2, g3, g4⟩ := hFK
    rintro e w2 ⟨rfl, hb2⟩
    have hb2' := hb0.trans (hb2.mono hb0.size)
    go_upto_region 2 with fail
    have hR : (w2.alloc (.cells #[.int .i64 (i : Int), .int .i64 (j : Int), .int .i64 (k : Int)] 73)).heap[w2.heap.size]? = some (.cells #[.int .i64 (i : Int), .int .i64 (j : Int), .int .i64 (k : Int)] 73) := heap_alloc_new w2 _
    have hb3 : Below w2.heap.size w2 (w2.alloc (.cells #[.int .i64 (i : Int), .int .i64 (j : Int), .int .i64 (k : Int)] 73)) := (Below.refl _ w2).alloc (Nat.le_refl _) _
    generalize w2.alloc (.cells #[.int .i64 (i : Int), .int .i64 (j : Int), .int .i64 (k : Int)] 73) = w3 at *
    have hRw : w.heap.size ≤ w2.heap.size := hb2.size
    generalize w2.heap.size = R at *
    have x0 : w3.cell? ⟨R, 0, none⟩ = some (.int .i64 (i : Int)) := by rw [Lib.cell_of_heap hR]; rfl
    have x1 : w3.cell? ⟨R, 1, none⟩ = some (.int .i64 (j : Int)) := by rw [Lib.cell_of_heap hR]; rfl
    have x2 : w3.cell? ⟨R, 2, none⟩ = some (.int .i64 (k : Int)) := by rw [Lib.cell_of_heap hR]; rfl
    go_quiet (fail)
    have hb4 : Below w.heap.size w (w3.drewN nq) := by
      have h := hb2.trans (hb3.mono hRw)
      exact ⟨h.os, h.tape, h.output, h.size, h.block⟩
    have hR4 : (w3.drewN nq).heap[R]? = some (.cells #[.int .i64 (i : Int), .int .i64 (j : Int), .int .i64 (k : Int)] 73) := hR
    clear x0 x1 x2 hR hb3 hb2 hb2'
    generalize w3.drewN nq = w4 at *
    have hb5 := hb0.trans (hb4.mono hb0.size)
    have hown4 := own_below3 hown hb4
    have hmvR : mv.ownBlock ≠ some R := fun h => by have := (hown.lt R h).2; omega
    have hRlt : R < w4.heap.size := (Array.getElem?_eq_some_iff.1 hR4).1
    have x2 : w4.cell? ⟨R, 2, none⟩ = some (.int .i64 (k : Int)) := by rw [Lib.cell_of_heap hR4]; rfl
    by_cases h0 : k = 0
    · have h0' : ¬ (0 : Int) < (k : Int) := by omega
      go_wp2_with fail
      go_ret
      refine ⟨_, rfl, ?_, Grew.ext hb4⟩
      rw [HZ.out h0, List.append_nil]
      exact hown4
    · have h0' : (0 : Int) < (k : Int) := by omega
      have hff : 0 < f := by omega
      have HP' := Lib.hid (HP.out (by omega) hff)
      go_upto_region 4 with fail
      go_cut [39] (fun v39 wx => v39 = .bool (decide (alo < i ∧ blo < j)) ∧ wx = w4)
      case first =>
        by_cases hA : alo < i
        · have hA' : (alo : Int) < (i : Int) := by omega
          by_cases hB : blo < j
          · have hB' : (blo : Int) < (j : Int) := by omega
            go_wp2_with fail
            go_meet
            case rel => exact ⟨by simp [hA, hB], rfl⟩
          · have hB' : ¬ (blo : Int) < (j : Int) := by omega
            go_wp2_with fail
            go_meet
            case rel => exact ⟨by simp [hB], rfl⟩
        · have hA' : ¬ (alo : Int) < (i : Int) := by omega
          go_wp2_with fail
          go_meet
          case rel => exact ⟨by simp [hA], rfl⟩
      case rest =>
        obtain ⟨rfl, rfl⟩ := hcut
        have k6' := (HC.out _ hb5).v
        have hlen1 := HLEN.out (f - 1) alo i blo j
        go_upto_if 39 with fail
        go_cut [4] (fun v4 wx => wx.ownsRow w1.heap.size 73 3 v4 (ms ++ (if alo < i ∧ blo < j then mbF (flm a b L) (f - 1) alo i blo j else [])).length (thr (ms ++ (if alo < i ∧ blo < j then mbF (flm a b L) (f - 1) alo i blo j else []))) ∧ Grew wc mv wx v4)
        case first =>
          by_cases hA : alo < i ∧ blo < j
          · have hd : decide (alo < i ∧ blo < j) = true := by simp [hA]
            rw [hd]
            go_wp2_with (go_at_call 33; go_must (refine (IH.out (f - 1) (by omega) alo i blo j wc mv ms hb5 hown4 (by omega) (by omega) (by omega) (by omega) (by omega) hms).mono ?_))
            rintro e w5 ⟨mv5, rfl, ho5, hG5⟩
            go_wp2_with fail
            go_meet
            case rel => rw [if_pos hA]; exact ⟨ho5, hG5⟩
          · have hd : decide (alo < i ∧ blo < j) = false := by simp; omega
            rw [hd]
            go_wp2_with fail
            go_meet
            case rel => rw [if_neg hA, List.append_nil]; exact ⟨hown4, Grew.ext (Below.refl _ _)⟩
        case rest =>
          have hlen2 : (ms ++ (if alo < i ∧ blo < j then mbF (flm a b L) (f - 1) alo i blo j else [])).length ≤ i := by
            rw [List.length_append]
            split
            · have := hlen1 (by omega) (by omega) (by omega) (by omega); omega
            · simp; omega
          rename_i w4
          obtain ⟨ho5, hG5⟩ := hcut
          have hR5 := (hG5.block hRlt hmvR).trans hR4
          have hG5' := (Grew.ext hb4).trans hG5
          have hb6 := hG5.below hb5 hb5.size (fun j hj => (hown4.lt j hj).1)
          generalize hls : (if alo < i ∧ blo < j then mbF (flm a b L) (f - 1) alo i blo j else []) = ls at *
          clear hls hlen1 k6' hR4 hown4 hG5 x2 hown hb4 k5 k6
          have x0 : wc.cell? ⟨R, 0, none⟩ = some (.int .i64 (i : Int)) := by rw [Lib.cell_of_heap hR5]; rfl
          have x1 : wc.cell? ⟨R, 1, none⟩ = some (.int .i64 (j : Int)) := by rw [Lib.cell_of_heap hR5]; rfl
          have x2 : wc.cell? ⟨R, 2, none⟩ = some (.int .i64 (k : Int)) := by rw [Lib.cell_of_heap hR5]; rfl
          have hwc := hb6.size
          go_wp2_with (at_builtin; go_must (refine wpList_append_own_at _ rfl _ _ 66 rfl w1.heap.size 73 i0 (.agg #[.int .i64 0, .int .i64 0, .int .i64 0]) 3 24 Tryd.underlying66 hi hz0 hz1 hz2 rfl (by decide) _ _ _ rfl (own_below3 ho5 ((Below.refl _ wc).alloc (Nat.le_refl _) _)) ⟨wc.heap.size, 0, none⟩ 1 1 [.int .i64 (i : Int), .int .i64 (j : Int), .int .i64 (k : Int)] rfl rfl (cell_three _ _ _ _ _ _ (heap_alloc_new _ _)) (by intro u hu; simp at hu; rcases hu with rfl | rfl | rfl <;> rfl) (by unfold maxLen; omega) (by omega) (by simp; omega) ?_))
          intro v6 w6 ho6 hg6 _ hloc6
          have hal : Below wc.heap.size wc (wc.alloc (.cells #[.int .i64 (i : Int), .int .i64 (j : Int), .int .i64 (k : Int)] 73)) := (Below.refl _ wc).alloc (Nat.le_refl _) _
          have hG6 : Grew wc u4 w6 v6 := (Grew.ext hal).trans ⟨hg6, fun j hj => by
            rcases hloc6 with h | h
            · exact .inr (h ▸ hj)
            · exact .inl (by rw [h] at hj; cases hj; simp)⟩
          have hG7 := hG5'.trans hG6
          have hb7 := hG6.below hb6 hwc (fun j hj => (ho5.lt j hj).1)
          have hl3 : (ms ++ ls ++ [(i, j, k)]).length = (ms ++ ls).length + 1 := by rw [List.length_append]; rfl
          have ho7 : w6.ownsRow w1.heap.size 73 3 v6 (ms ++ ls ++ [(i, j, k)]).length (thr (ms ++ ls ++ [(i, j, k)])) := by
            rw [thr_snoc, hl3, List.length_append]; exact ho6
          have hlen3 : (ms ++ ls ++ [(i, j, k)]).length ≤ i + 1 := by rw [hl3]; omega
          have k7 := (HC.out _ hb7).v
          clear ho6 hg6 hloc6 hal hG6 x0 x1 x2 hR5 ho5 hG5' hb6
          have hs1 : IntKind.i64.wrap ((i : Int) + (k : Int)) = (i : Int) + (k : Int) := IntWalk.i64_in _ ⟨by omega, by omega⟩
          by_cases hD : i + k < ahi
          · have hD' : (i : Int) + (k : Int) < (ahi : Int) := by omega
            by_cases hE : j + k < bhi
            · have hE' : (j : Int) + (k : Int) < (bhi : Int) := by omega
              have hfin : ms ++ ls ++ [(i, j, k)] ++ mbF (flm a b L) (f - 1) (i + k) ahi (j + k) bhi = ms ++ mbF (flm a b L) f alo ahi blo bhi := by
                rw [HP'.out, if_pos ⟨hD, hE⟩]; simp
              have HFN := Lib.hid hfin
              clear hfin
              go_wp2_with (go_at_call 33; go_must (refine (IH.out (f - 1) (by omega) (i + k) ahi (j + k) bhi w6 v6 (ms ++ ls ++ [(i, j, k)]) hb7 ho7 (by omega) (by omega) (by omega) (by omega) (by omega) (by omega)).mono ?_))
              rintro e w8 ⟨mv8, rfl, ho8, hG8⟩
              go_wp2_with fail
              go_ret
              refine ⟨_, rfl, ?_, hG7.trans hG8⟩
              rw [HFN.out] at ho8
              exact ho8
            · have hE' : ¬ (j : Int) + (k : Int) < (bhi : Int) := by omega
              have hfin : ms ++ ls ++ [(i, j, k)] = ms ++ mbF (flm a b L) f alo ahi blo bhi := by
                rw [HP'.out, if_neg (fun h => hE h.2)]; simp
              have HFN := Lib.hid hfin
              clear hfin
              go_wp2_with fail
              go_ret
              refine ⟨_, rfl, ?_, hG7⟩
              rw [HFN.out, List.length_append] at ho7
              exact ho7
          · have hD' : ¬ (i : Int) + (k : Int) < (ahi : Int) := by omega
            have hfin : ms ++ ls ++ [(i, j, k)] = ms ++ mbF (flm a b L) f alo ahi blo bhi := by
              rw [HP'.out, if_neg (fun h => hD h.1)]; simp
            have HFN := Lib.hid hfin
            clear hfin
            go_wp2_with fail
            go_ret
            refine ⟨_, rfl, ?_, hG7⟩
            rw [HFN.out, List.length_append] at ho7
            exact ho7
end Go.Proofs.YtkbppaddghfgpaaDoor
