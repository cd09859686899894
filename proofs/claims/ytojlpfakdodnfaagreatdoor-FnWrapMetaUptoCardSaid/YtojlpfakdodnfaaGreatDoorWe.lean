/- spec.DescWrapped. -/
import Derived.Test.YtojlpfakdodnfaaGreatDoorLbs
import Derived.Test.YtojlpfakdodnfaaGreatDoorWs
import Derived.Test.YtojlpfakdodnfaaGreatDoorMet
import Derived.Test.YtojlpfakdodnfaaGreatDoorAlk3a
import Derived.Test.YtojlpfakdodnfaaGreatDoorWe0
set_option linter.unusedVariables false
set_option linter.unusedSimpArgs false
namespace Go.Proofs.YtojlpfakdodnfaaGreatDoor
open Go.RowKit

theorem rowNewN (z : World) (B N : Nat) (hN : z.heap.size = N) (hB : B ≤ N) : (z.alloc (.cells #[] 9)).ownsRow B 9 1 (.slice (some ⟨N, 0, none⟩) 0 0) 0 [] := by subst hN; exact rowNew z B hB
set_option maxHeartbeats 6400000 in
set_option maxRecDepth 100000 in
theorem wrappedK (D : Dsc) (v1 v2 v3 : Value) (p : ByteArray) (L : List Ent) (w : World) (hv1 : RdC Value.string w v1 D.vars) (hv2 : RdE w v2 D.cons) (hv3 : RdE w v3 L) (hp : p.size ≤ 1048576) (hn1 : D.name.size ≤ 1048576) (hnv : D.vars.length ≤ 4194304) (hnc : D.cons.length ≤ 1048576) (hll : L.length ≤ 1048576) :
    Calls Tryz.prog 23 #[MetaV D.name D.help D.unit v1 v2, .string p, v3] w fun e w' => SaidW2 D (p ++ D.name) L w w' e := by
  have HV1 := Lib.hid hv1
  have HV2 := Lib.hid hv2
  have HV3 := Lib.hid hv3
  obtain ⟨a1, cap1, b1, o1, rfl, hcp1, hmx1, hp1, hc1⟩ := hv1
  obtain ⟨a2, cap2, b2, o2, rfl, hcp2, hmx2, hp2, hc2⟩ := hv2
  obtain ⟨a3, cap3, rfl⟩ := hv3.shape
  clear hv3
  unfold maxLen at hmx1 hmx2
  obtain ⟨z0, hzi, hzz, hzs, hzb⟩ := info_parts info_spr
  go_enter Tryz.func23, Tryz.ntmps23
  go_upto_region 1 with fail
  have hM := (Below.heap_alloc (w.alloc (.cells #[.string D.name, .string D.help, .string D.unit, .slice a1 D.vars.length cap1, .slice a2 D.cons.length cap2] 25)) (.cells #[.string ⟨#[]⟩, .string ⟨#[]⟩, .string ⟨#[]⟩, .slice none 0 0, .slice none 0 0] 25) w.heap.size (by simp)).trans (heap_alloc_new w (.cells #[.string D.name, .string D.help, .string D.unit, .slice a1 D.vars.length cap1, .slice a2 D.cons.length cap2] 25))
  have hZ := heap_alloc2_new w (.cells #[.string D.name, .string D.help, .string D.unit, .slice a1 D.vars.length cap1, .slice a2 D.cons.length cap2] 25) (.cells #[.string ⟨#[]⟩, .string ⟨#[]⟩, .string ⟨#[]⟩, .slice none 0 0, .slice none 0 0] 25)
  have hbw := ((Below.refl _ w).alloc (Nat.le_refl _) (.cells #[.string D.name, .string D.help, .string D.unit, .slice a1 D.vars.length cap1, .slice a2 D.cons.length cap2] 25)).alloc (by simp) (.cells #[.string ⟨#[]⟩, .string ⟨#[]⟩, .string ⟨#[]⟩, .slice none 0 0, .slice none 0 0] 25)
  generalize ((w.alloc (.cells #[.string D.name, .string D.help, .string D.unit, .slice a1 D.vars.length cap1, .slice a2 D.cons.length cap2] 25)).alloc (.cells #[.string ⟨#[]⟩, .string ⟨#[]⟩, .string ⟨#[]⟩, .slice none 0 0, .slice none 0 0] 25)) = w1 at *
  have hadd : ∀ z, (Op.stringOp .add p D.name).run Tryz.prog z = .ok (.string (p ++ D.name)) z := fun z => run_string_add_sum z _ _ (by omega)
  have HBW := Lib.hid hbw
  have KS : Hid (∀ x, TB w1 x → x.cell? ⟨w.heap.size, 0, none⟩ = some (.string D.name) ∧ x.cell? ⟨w.heap.size, 1, none⟩ = some (.string D.help) ∧ x.cell? ⟨w.heap.size, 2, none⟩ = some (.string D.unit) ∧ x.cell? ⟨w.heap.size, 3, none⟩ = some (.slice a1 D.vars.length cap1) ∧ x.cell? ⟨w.heap.size, 4, none⟩ = some (.slice a2 D.cons.length cap2)) := Lib.hid (fun x hx => by
    have h := (Chg.of_below hx Non).obj hM (fun h => h)
    refine ⟨?_, ?_, ?_, ?_, ?_⟩ <;> (rw [Lib.cell_of_heap h]; rfl))
  have HT : Hid (∀ x, TB w1 x → Below w.heap.size w x) := Lib.hid (fun x hx => HBW.out.trans (Below.mono hx HBW.out.size))
  have HZ := Lib.hid hZ
  have ht1 : TB w1 w1 := TB.refl _
  have HC2 := Lib.hid hc2
  clear hM hZ hbw hc1 hc2
  have HVV : Hid (∀ x, TB w1 x → RdC Value.string x (.slice a1 D.vars.length cap1) D.vars) := Lib.hid (fun x hx => HV1.out.below (HT.out x hx))
  go_cut [8] (fun x8 wx => ∃ (R : Nat) (na : Option Addr) (nc : Nat), x8 = .pointer (some ⟨R, 0, none⟩) ∧ w1.heap.size ≤ R ∧ TB w1 wx ∧ wx.heap[R]? = some (.cells #[.string (p ++ D.name), .string D.help, .string D.unit, .slice na D.vars.length nc, .slice none 0 0] 25 (0, 0)) ∧ wx.ownsRow w1.heap.size 9 1 (.slice na D.vars.length nc) D.vars.length (D.vars.map Value.string))
  case first =>
    go_region_held3 (fun x => x.cell? ⟨w.heap.size, 0, none⟩ = some (.string D.name) ∧ x.cell? ⟨w.heap.size, 1, none⟩ = some (.string D.help) ∧ x.cell? ⟨w.heap.size, 2, none⟩ = some (.string D.unit) ∧ x.cell? ⟨w.heap.size, 3, none⟩ = some (.slice a1 D.vars.length cap1) ∧ x.cell? ⟨w.heap.size, 4, none⟩ = some (.slice a2 D.cons.length cap2))
      (exact KS.out _ (by repeat (first | assumption | apply TB.drew | apply TB.alloc2 | refine TB.set ?_ (by first | exact Nat.le_refl _ | exact Nat.le_add_right _ _) | refine TB.stp (by assumption) ?_)))
      ((refine step_strs (by rfl) _ _ (by rfl) (B := w1.heap.size) (n := 0) (xs := []) (vars := D.vars) (by rfl) (by rfl) (by first | exact rowNewN _ _ _ (by first | rfl | (simp; done)) (by first | exact Nat.le_refl _ | exact Nat.le_add_right _ _) | exact ((Chg.refl Non _).alloc _).row (rowNewN w1.drew _ _ rfl (Nat.le_refl _)) (fun q _ h => h)) (HVV.out _ (by repeat (first | assumption | apply TB.drew | apply TB.alloc2 | refine TB.stp (by assumption) ?_))) (by omega) (by first | (simp; done) | (simp; omega) | exact Nat.le_refl w1.heap.size) ?_
        intro nv wa hown hgr
        obtain ⟨na, nc, rfl, hnc⟩ := own_shapeL hown
        have hta : TB w1 wa := Below.grown (show TB w1 _ from by repeat (first | assumption | apply TB.drew | apply TB.alloc2 | refine TB.stp (by assumption) ?_)) hgr (by first | (simp; done) | (simp; omega) | exact Nat.le_refl w1.heap.size) (fun q hq => by have h1 := Option.some.inj (show some _ = some q from hq); first | exact Nat.le_of_eq h1 | exact Nat.le_trans (Nat.le_succ _) (Nat.le_of_eq h1) | exact Nat.le_trans (size_alloc_le w1.drew _) (Nat.le_of_eq h1) | (trace_state; omega))
        first
          | (have hR := outA (w1 := w1) hgr
             obtain ⟨r0, r1, r2, r3, r4, f0, f1, f2, f3, f4⟩ := out5 hR)
          | (have hR := outB (w1 := w1) hgr
             obtain ⟨r0, r1, r2, r3, r4, f0, f1, f2, f3, f4⟩ := out5 hR)
          | skip))
    all_goals go_wp2_with fail
    all_goals go_meet
    all_goals first
      | exact ⟨wa.heap.size, na, nc, rfl, Below.size hta, TB.alloc2 hta _, heap_alloc_new _ _, ((Chg.refl Non wa).alloc _).row (show wa.ownsRow w1.heap.size 9 1 _ D.vars.length (D.vars.map Value.string) from by simpa using hown) (fun q _ h => h)⟩
      | (have hod := out_done (a := .string (p ++ D.name)) (b := .string D.help) (c := .string D.unit) (d := .slice na D.vars.length nc) (e := .slice none 0 0) hR rfl (show wa.ownsRow w1.heap.size 9 1 (.slice na D.vars.length nc) D.vars.length (D.vars.map Value.string) from by simpa using hown)
         exact ⟨_, na, nc, rfl, (by first | exact Nat.le_refl _ | exact Nat.le_add_right _ _), (by repeat (first | assumption | refine TB.set ?_ (by first | exact Nat.le_refl _ | exact Nat.le_add_right _ _))), hod.1, hod.2⟩)
  case rest =>
    obtain ⟨R, na, nc, rfl, hRle, htx, hout, hrd⟩ := hcut
    generalize wc = w3 at *
    have HOUT := Lib.hid hout
    have HRD := Lib.hid hrd
    have HRL : Hid (w1.heap.size ≤ R ∧ R < w3.heap.size ∧ w.heap.size + 1 < w1.heap.size) := Lib.hid ⟨hRle, (Array.getElem?_eq_some_iff.1 hout).1, (Array.getElem?_eq_some_iff.1 HZ.out).1⟩
    have HW : Hid (∀ x, TB w3 x → TB w1 x) := Lib.hid (fun x hx => TB.stp hx htx)
    obtain ⟨_, _, _, _, m4⟩ := KS.out _ htx
    have HFA := Lib.hid (fitPairsO _ D.cons w3 (HV2.out.below (HT.out _ htx)) (by omega))
    have HDK : Hid (D.keys = (fit D.cons).map (·.1)) := Lib.hid rfl
    have HWF : Hid (wrapFine D L = (fit L).all fun x => !inB x.1 D.vars && !inB x.1 D.keys) := Lib.hid rfl
    have hMl := fit_len L
    have hKl := fit_len D.cons
    clear hout hrd htx hRle
    generalize hKK : fit D.cons = K at *
    generalize hMM : fit L = M at *
    have HKK := Lib.hid hKK
    have HMM := Lib.hid hMM
    clear hKK
    go_wp2_with (go_at_call 35; go_must (refine HFA.out.mono ?_))
    rintro e w4 ⟨⟨fv, rfl, hf⟩, hb4⟩
    have HT4 : Hid (TB w3 w4) := Lib.hid hb4
    have HFB := Lib.hid (fitPairsO _ L w4 (HV3.out.below (HT.out _ (HW.out _ hb4))) (by omega))
    rw [hMM] at HFB
    have HF4 := Lib.hid hf
    obtain ⟨fa, fc, rfl, hfc⟩ := own_shapeL hf
    clear hf hb4 m4 hMM
    go_wp2_with (go_at_call 35; go_must (refine HFB.out.mono ?_))
    rintro e w5 ⟨⟨gv, rfl, hg⟩, hb5⟩
    have HT5 : Hid (TB w3 w5) := Lib.hid (TB.stp hb5 HT4.out)
    have ho5 := (Chg.of_below hb5 Non).row HF4.out (fun q _ h => h)
    have HO5 := Lib.hid ho5
    have HG5 := Lib.hid hg
    have HGN : Hid (∀ q, gv.ownBlock = some q → ¬ (Value.slice fa K.length fc).ownBlock = some q) := Lib.hid (fun q hq e => by have h1 := (row_from hg q hq).1; have h2 := (row_from HF4.out q e).2; omega)
    obtain ⟨ga, gc, rfl, hgc⟩ := own_shapeL hg
    clear hg hb5
    go_wp2_with fail
    go_loopw [9, 11] (fun o iv wx => ∃ k : Nat, k ≤ M.length ∧ iv = .int .i64 (k : Int) ∧ wx.ownsRow w3.heap.size 53 2 o (K.length + k) (twoV (K ++ M.take k)) ∧ Chg (fun i => (Value.slice fa K.length fc).ownBlock = some i) w5 wx ∧ Hid (∀ q, o.ownBlock = some q → (Value.slice fa K.length fc).ownBlock = some q ∨ w5.heap.size ≤ q) ∧ Hid (∀ x ∈ M.take k, inB x.1 D.vars = false ∧ inB x.1 D.keys = false)) (fun _ iv _ => M.length - (intOf iv).toNat)
    case atStart => exact ⟨0, Nat.zero_le _, rfl, by simpa using ho5, Chg.refl _ _, Lib.hid (fun q hq => .inl hq), Lib.hid (by simp)⟩
    case round =>
      obtain ⟨k, hk, rfl, hown, hch, HLO, HFK⟩ := hrel
      have HCH := Lib.hid hch
      have HOWN := Lib.hid hown
      have HT6 : Hid (TB w3 wr) := Lib.hid (Below.trans HT5.out (hch.below (fun i hi => (row_from HO5.out i hi).1) (Below.size HT5.out)))
      have hwr : w3.heap.size ≤ wr.heap.size := Below.size HT6.out
      obtain ⟨va, vc, rfl, hvc⟩ := own_shapeL hown
      by_cases hlt : k < M.length
      · have hlti : (k : Int) < (M.length : Int) := by omega
        have hfr := hch.row HG5.out HGN.out
        obtain ⟨g, rfl, hBg, hgl, q1, q2, q3⟩ := own_cellsE hfr (List.getElem?_eq_getElem hlt)
        obtain ⟨_, _, _, m3, m4⟩ := KS.out _ (HW.out _ HT6.out)
        have HTK : Hid (twoV (K ++ M.take (k + 1)) = twoV (K ++ M.take k) ++ [.string M[k].1, .string M[k].2]) := Lib.hid (by rw [List.take_succ_eq_append_getElem hlt, ← List.append_assoc, twoV_snoc])
        have HFS : Hid (inB M[k].1 D.vars = false → inB M[k].1 D.keys = false → ∀ x ∈ M.take (k + 1), inB x.1 D.vars = false ∧ inB x.1 D.keys = false) := Lib.hid (fun h h' x hx => by
          rw [List.take_succ_eq_append_getElem hlt] at hx
          rcases List.mem_append.1 hx with hx | hx
          · exact HFK.out x hx
          · rw [List.mem_singleton.1 hx]; exact ⟨h, h'⟩)
        have HBV : Hid (inB M[k].1 D.vars = true → wrapFine D L = false) := Lib.hid (fun h => by
          rw [HWF.out]
          exact List.all_eq_false.2 ⟨M[k], List.getElem_mem hlt, by rw [h]; simp⟩)
        have HBK : Hid (inB M[k].1 D.keys = true → wrapFine D L = false) := Lib.hid (fun h => by
          rw [HWF.out]
          exact List.all_eq_false.2 ⟨M[k], List.getElem_mem hlt, by rw [h]; simp⟩)
        have HIN : Hid (∀ m, Calls Tryz.prog 36 #[.string M[k].1, .slice a1 D.vars.length cap1] (wr.drewN m) fun e w' => e = .returned (.bool (inB M[k].1 D.vars)) ∧ (wr.drewN m) = w') := Lib.hid (fun m => inK _ _ _ _ (HV1.out.below (below_drewN (HT.out _ (HW.out _ HT6.out)) m)))
        have HQ3 := Lib.hid q3
        clear hfr hown hch q3
        generalize M[k] = y at *
        obtain ⟨s, t⟩ := y
        simp only at q1 q2 HTK HFS HBV HBK HIN
        generalize hbv : inB s D.vars = bv at *
        clear hbv
        go_upto_region 6 with fail
        go_quiet ((go_at_call 36; exact qsame (HIN.out _)))
        have hb6 : Below wr.heap.size wr (wr.drewN nq) := below_drewN (Below.refl _ _) nq
        have HT7 : Hid (TB w3 (wr.drewN nq)) := Lib.hid (below_drewN HT6.out nq)
        have HOWN7 := Lib.hid (((Chg.refl Non wr).drewN nq).row HOWN.out (fun q _ h => h))
        have HCH7 := Lib.hid (HCH.out.drewN nq)
        have q1' : (wr.drewN nq).cell? ⟨g, k * 2, none⟩ = some (.string s) := q1
        have q2' : (wr.drewN nq).cell? ⟨g, k * 2 + 1, none⟩ = some (.string t) := q2
        have hgl' : g < (wr.drewN nq).heap.size := hgl
        have hwr' : w3.heap.size ≤ (wr.drewN nq).heap.size := hwr
        clear q1 q2 m3 m4 HIN hb6 HT6 HOWN HCH hgl hwr
        generalize wr.drewN nq = w6 at *
        have HBE : Hid (Below w.heap.size w w6) := Lib.hid (HT.out _ (HW.out _ HT7.out))
        have HRZ := Lib.hid ((Chg.of_below (HW.out _ HT7.out) Non).obj HZ.out (fun h => h))
        cases bv with
        | true =>
          have HFF := Lib.hid (HBV.out rfl)
          obtain ⟨r0, r1, r2, r3, r4, f0, f1, f2, f3, f4⟩ := out5 HRZ.out
          (go_wp2_with fail
           refine bodyPost_ret (results_cell_row2 rfl _ _ (w.heap.size + 1) 25 #[.string ⟨#[]⟩, .string ⟨#[]⟩, .string ⟨#[]⟩, .slice none 0 0, .slice none 0 0] (0, 0) _ rfl (row5 HRZ.out rfl _ _ _ _ _) Tryz.underlying25 rfl (by kernel_rfl)) rfl ?_
           exact ⟨⟨_, _, _, _, _, _, _, _, _, by rw [HFF.out]; rfl, fun h => by rw [HFF.out] at h; cases h⟩, stp5 HBE.out (Nat.le_succ _) _ _ _ _ _⟩)
        | false =>
          clear HBV
          obtain ⟨_, _, _, m3, m4⟩ := KS.out _ (HW.out _ HT7.out)
          go_wp2_with fail
          go_loopw [12] (fun iv wx => ∃ j : Nat, j ≤ D.cons.length ∧ iv = .int .i64 (j : Int) ∧ TB w6 wx ∧ Hid (∀ y ∈ D.cons.take j, y.1 ≠ s)) (fun iv _ => D.cons.length - (intOf iv).toNat)
          case atStart => exact ⟨0, Nat.zero_le _, rfl, TB.refl _, Lib.hid (by simp)⟩
          case round =>
            obtain ⟨j, hj, rfl, ht8, HNE⟩ := hrel
            have HT8 := Lib.hid ht8
            have HT38 : Hid (TB w3 wr) := Lib.hid (TB.stp ht8 HT7.out)
            clear m3 m4
            obtain ⟨_, _, _, m3, m4⟩ := KS.out _ (HW.out _ HT38.out)
            have q1 := (Below.cell ht8 (p := ⟨g, k * 2, none⟩) hgl').trans q1'
            have q2 := (Below.cell ht8 (p := ⟨g, k * 2 + 1, none⟩) hgl').trans q2'
            by_cases hjl : j < D.cons.length
            · have hjli : (j : Int) < (D.cons.length : Int) := by omega
              obtain rfl : a2 = some ⟨b2, o2, none⟩ := by
                rcases hp2 with h | h
                · rw [h] at hjl; exact absurd hjl (Nat.not_lt_zero _)
                · exact h
              have c1 := (HC2.out j D.cons[j] (List.getElem?_eq_getElem hjl)).1
              have d1 := ((HT.out _ (HW.out _ HT38.out)).cell (p := ⟨b2, o2 + j * 2, none⟩) (World.block_lt_of_cell? w _ c1)).trans c1
              have HNX : Hid (D.cons[j].1 ≠ s → ∀ y ∈ D.cons.take (j + 1), y.1 ≠ s) := Lib.hid (fun h y hy => by
                rw [List.take_succ_eq_append_getElem hjl] at hy
                rcases List.mem_append.1 hy with hy | hy
                · exact HNE.out y hy
                · rw [List.mem_singleton.1 hy]; exact h)
              have HKY : Hid (D.cons[j].1 = s → inB s D.keys = true) := Lib.hid (fun h => inB_true (keys_raw.2 ⟨D.cons[j], List.getElem_mem hjl, h⟩))
              clear c1 ht8
              generalize D.cons[j].1 = u at *
              have e1 := eqB u s
              go_upto_region 11 with fail
              by_cases hus : u = s
              · rw [decide_eq_true hus] at e1
                have HFF := Lib.hid (HBK.out (HKY.out hus))
                clear hus
                go_quiet (fail)
                have HBE2 : Hid (Below w.heap.size w (wr.drewN nq)) := Lib.hid (below_drewN (HT.out _ (HW.out _ HT38.out)) nq)
                have HRZ2 := Lib.hid ((Chg.of_below (below_drewN (HW.out _ HT38.out) nq) Non).obj HZ.out (fun h => h))
                clear q1 q2 m3 m4 d1 HRZ HBE
                have HRZ := HRZ2
                have HBE := HBE2
                obtain ⟨r0, r1, r2, r3, r4, f0, f1, f2, f3, f4⟩ := out5 HRZ.out
                (go_wp2_with fail
                 refine bodyPost_ret (results_cell_row2 rfl _ _ (w.heap.size + 1) 25 #[.string ⟨#[]⟩, .string ⟨#[]⟩, .string ⟨#[]⟩, .slice none 0 0, .slice none 0 0] (0, 0) _ rfl (row5 HRZ.out rfl _ _ _ _ _) Tryz.underlying25 rfl (by kernel_rfl)) rfl ?_
                 exact ⟨⟨_, _, _, _, _, _, _, _, _, by rw [HFF.out]; rfl, fun h => by rw [HFF.out] at h; cases h⟩, stp5 HBE.out (Nat.le_succ _) _ _ _ _ _⟩)
              · rw [decide_eq_false hus] at e1
                have HNX2 := Lib.hid (HNX.out hus)
                clear hus
                go_quiet (fail)
                go_wp2_with fail
                go_roundw
                case rel => exact ⟨j + 1, by omega, by go_num, below_drewN HT8.out _, HNX2⟩
                case measure => simp [intOf]; omega
            · have hjli : ¬ (j : Int) < (D.cons.length : Int) := by omega
              have HNK : Hid (inB s D.keys = false) := Lib.hid (inB_false (fun h => by
                obtain ⟨y, hy, e⟩ := keys_raw.1 h
                have := HNE.out
                rw [List.take_of_length_le (by omega)] at this
                exact this y hy e))
              have HFS2 := Lib.hid (HFS.out (by trivial) HNK.out)
              have hrow8 := (Chg.of_below ht8 Non).row HOWN7.out (fun q _ h => h)
              have HROW8 := Lib.hid hrow8
              have HCH8 := Lib.hid (HCH7.out.trans (Chg.of_below ht8 (fun i => (Value.slice fa K.length fc).ownBlock = some i)) (fun i hi => .inl hi))
              have hs8 : w3.heap.size ≤ wr.heap.size := Below.size HT38.out
              clear ht8
              go_wp2_with (at_builtin; go_must (refine wpList_append_own_at _ rfl _ _ 23 rfl w3.heap.size 53 z0 (.agg #[.string ⟨#[]⟩, .string ⟨#[]⟩]) 2 32 Tryz.underlying23 hzi hzz hzs hzb rfl (by decide) _ _ _ rfl (hrow8.alloc _) ⟨wr.heap.size, 0, none⟩ 1 1 [.string s, .string t] rfl rfl (World.news_of_block (cs := #[.string s, .string t]) (t := 53) (fr := (0, 0)) (heap_alloc_new wr _)) (by simp [Value.oneCell']) (by unfold maxLen; omega) (by omega) (by simp; omega) ?_))
              intro v' wz hown9 hg9 hnil hloc
              have hch9 : Chg (fun i => (Value.slice fa K.length fc).ownBlock = some i) w5 wz := HCH8.out.grown ((World.grownBy_alloc wr _ _).trans hg9) (fun q hq => HLO.out q hq)
              have HLO9 : Hid (∀ q, v'.ownBlock = some q → (Value.slice fa K.length fc).ownBlock = some q ∨ w5.heap.size ≤ q) := Lib.hid (fun q hq => by
                rcases hloc with h | h
                · exact HLO.out q (h.symm.trans hq)
                · rw [h] at hq; injection hq with hq; rw [← hq]; exact .inr (by have := HCH8.out.size; simp; omega))
              have HOWN9 := Lib.hid hown9
              clear hrow8 hg9 hnil hloc hown9 q1 q2 m3 m4
              go_wp2_with fail
              go_roundw
              case rel => exact ⟨k + 1, by omega, by go_num, by rw [HTK.out, ← Nat.add_assoc]; exact HOWN9.out, hch9, HLO9, HFS2⟩
              case measure => simp [intOf]; omega
      · have hlti : ¬ (k : Int) < (M.length : Int) := by omega
        have hkl : k = M.length := by omega
        subst hkl
        have HALL : Hid (wrapFine D L = true) := Lib.hid (by
          rw [HWF.out]
          refine List.all_eq_true.2 fun x hx => ?_
          have h1 := HFK.out
          rw [List.take_length] at h1
          rw [(h1 x hx).1, (h1 x hx).2]; rfl)
        have HRDA : Hid (RdE wr (.slice va (K.length + M.length) vc) (K ++ M)) := Lib.hid (by
          have := HOWN.out
          rw [List.take_length] at this
          exact RdE.of_owns this)
        have HFP := Lib.hid (fitPairsO _ (K ++ M) wr HRDA.out (by rw [List.length_append]; omega))
        clear hown hch
        go_wp2_with (go_at_call 35; go_must (refine HFP.out.mono ?_))
        rintro e w7 ⟨⟨gv, rfl, hg⟩, hb7⟩
        have HT7 : Hid (TB w3 w7) := Lib.hid (TB.stp hb7 HT6.out)
        have HG7 := Lib.hid hg
        have HR7 := Lib.hid ((Chg.of_below HT7.out Non).row HRD.out (fun q _ h => h))
        have hout7 := (Chg.of_below HT7.out Non).obj HOUT.out (fun h => h)
        have hz7 := (Chg.of_below (HW.out _ HT7.out) Non).obj HZ.out (fun h => h)
        obtain ⟨qa, qc, rfl, hqc⟩ := own_shapeL hg
        obtain ⟨s0, s1, s2, s3, s4, g0, g1, g2, g3, g4⟩ := out5 hout7
        have HOUT7 := Lib.hid hout7
        have HZ7 := Lib.hid hz7
        have HRQ : Hid (∀ q, (Value.slice qa (fit (K ++ M)).length qc).ownBlock = some q → ¬ (q = R ∨ q = w.heap.size + 1)) := Lib.hid (fun q hq h => by have h1 := (row_from hg q hq).1; have h2 := HRL.out; omega)
        clear hg hb7 hout7 hz7
        go_upto_region 15 with fail
        have hout8 : (w7.setCell ⟨R, 4, none⟩ (.slice qa (fit (K ++ M)).length qc)).heap[R]? = some (.cells #[.string (p ++ D.name), .string D.help, .string D.unit, .slice na D.vars.length nc, .slice qa (fit (K ++ M)).length qc] 25 (0, 0)) := hset (i := 4) HOUT7.out _
        have hc8 : Chg (fun i => i = R ∨ i = w.heap.size + 1) w7 (w7.setCell ⟨R, 4, none⟩ (.slice qa (fit (K ++ M)).length qc)) := (Chg.refl (fun i => i = R ∨ i = w.heap.size + 1) w7).setCell (p := ⟨R, 4, none⟩) (.inl (.inl rfl)) _
        have hc8' : Chg (fun i => i = R) w7 (w7.setCell ⟨R, 4, none⟩ (.slice qa (fit (K ++ M)).length qc)) := (Chg.refl (fun i => i = R) w7).setCell (p := ⟨R, 4, none⟩) (.inl rfl) _
        have hz8 := hc8'.obj HZ7.out (fun e => by have := HRL.out; omega)
        have hb8 : TB w3 w7 := HT7.out
        have HC8 := Lib.hid hc8
        have HBW8 : Hid (Below w.heap.size w (w7.setCell ⟨R, 4, none⟩ (.slice qa (fit (K ++ M)).length qc))) := Lib.hid (Below.setCell (p := ⟨R, 4, none⟩) (HT.out _ (HW.out _ HT7.out)) (by have := HRL.out; show w.heap.size ≤ R; omega) _)
        have HZ8 := Lib.hid hz8
        clear hc8 hc8' s0 s1 s2 s3 s4 g0 g1 g2 g3 g4 hb8
        generalize (w7.setCell ⟨R, 4, none⟩ (.slice qa (fit (K ++ M)).length qc)) = w8 at *
        obtain ⟨s0, s1, s2, s3, s4, _⟩ := out5 hout8
        obtain ⟨r0, r1, r2, r3, r4, f0, f1, f2, f3, f4⟩ := out5 hz8
        clear hout8 hz8
        go_wp2_with fail
        refine bodyPost_ret (results_cell_row2 rfl _ _ (w.heap.size + 1) 25 #[.string (p ++ D.name), .string D.help, .string D.unit, .slice na D.vars.length nc, .slice qa (fit (K ++ M)).length qc] (0, 0) _ rfl (row5 HZ8.out rfl _ _ _ _ _) Tryz.underlying25 rfl (by kernel_rfl)) rfl ?_
        have hcE : ∀ a b c d e : Value, Chg (fun i => i = R ∨ i = w.heap.size + 1) w7 (((((w8.setCell ⟨w.heap.size + 1, 0, none⟩ a).setCell ⟨w.heap.size + 1, 1, none⟩ b).setCell ⟨w.heap.size + 1, 2, none⟩ c).setCell ⟨w.heap.size + 1, 3, none⟩ d).setCell ⟨w.heap.size + 1, 4, none⟩ e) := fun a b c d e => ((((HC8.out.setCell (p := ⟨w.heap.size + 1, 0, none⟩) (.inl (.inr rfl)) a).setCell (p := ⟨w.heap.size + 1, 1, none⟩) (.inl (.inr rfl)) b).setCell (p := ⟨w.heap.size + 1, 2, none⟩) (.inl (.inr rfl)) c).setCell (p := ⟨w.heap.size + 1, 3, none⟩) (.inl (.inr rfl)) d).setCell (p := ⟨w.heap.size + 1, 4, none⟩) (.inl (.inr rfl)) e
        refine ⟨⟨_, _, _, _, _, _, _, _, _, by rw [HALL.out]; rfl, fun _ => ⟨rfl, rfl, rfl, RdC.of_owns ((hcE _ _ _ _ _).row HR7.out (fun q hq h => ?_)), by rw [HKK.out, HMM.out]; exact RdE.of_owns ((hcE _ _ _ _ _).row HG7.out HRQ.out)⟩⟩, stp5 HBW8.out (Nat.le_succ _) _ _ _ _ _⟩
        rcases h with h | h
        · exact row_ne_out HR7.out HOUT7.out q hq h
        · exact row_ne_out HR7.out HZ7.out q hq h
end Go.Proofs.YtojlpfakdodnfaaGreatDoor
