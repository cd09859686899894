/- descTwice of the reference. -/
import Derived.Test.YtojlpfakdodnfaaGreatDoorDsc
import Derived.Test.YtojlpfakdodnfaaGreatDoorSrt
set_option linter.unusedVariables false
set_option linter.unusedSimpArgs false
namespace Go.Proofs.YtojlpfakdodnfaaGreatDoor
open Go.RowKit

theorem rowNew (z : World) (B : Nat) (hB : B ≤ z.heap.size) : (z.alloc (.cells #[] 9)).ownsRow B 9 1 (.slice (some ⟨z.heap.size, 0, none⟩) 0 0) 0 [] := ⟨rfl, .inr ⟨z.heap.size, 0, #[], rfl, hB, heap_alloc_new _ _, Nat.le_refl _, Nat.zero_le _, rfl, rfl⟩⟩
abbrev MetaV (n h u : ByteArray) (v1 v2 : Value) : Value := .agg #[.string n, .string h, .string u, v1, v2]
theorem nodup_not {xs : List ByteArray} {k : Nat} (hk : k < xs.length) (h : xs[k] ∈ xs.take k) : ¬ xs.Nodup := by
  intro hn
  obtain ⟨i, hi, e⟩ := List.mem_iff_getElem.1 h
  rw [List.length_take] at hi
  rw [List.getElem_take] at e
  exact List.pairwise_iff_getElem.1 hn i k (by omega) hk (by omega) e

set_option maxHeartbeats 3200000 in
set_option maxRecDepth 100000 in
theorem twiceK (n h u : ByteArray) (v1 v2 : Value) (vars : List ByteArray) (cons : List Ent) (w : World) (hv1 : RdC Value.string w v1 vars) (hv2 : RdE w v2 cons) (hl1 : vars.length ≤ 4194304) (hl2 : cons.length ≤ 4194304) :
    Calls Tryz.prog 28 #[MetaV n h u v1 v2] w fun e w' => SaidB (¬ (vars ++ (fit cons).map (·.1)).Nodup) w w' e := by
  have HV1 := Lib.hid hv1
  have HV2 := Lib.hid hv2
  obtain ⟨z0, hzi, hzz, hzs, hzb⟩ := info_parts info_st
  obtain ⟨a1, cap1, b1, o1, rfl, _⟩ := hv1
  obtain ⟨a2, cap2, b2, o2, rfl, _⟩ := hv2
  go_enter Tryz.func28, Tryz.ntmps28
  go_upto_region 1 with fail
  have hM := heap_alloc_new w (.cells #[.string n, .string h, .string u, .slice a1 vars.length cap1, .slice a2 cons.length cap2] 25)
  have hb1 := (Below.refl _ w).alloc (Nat.le_refl _) (.cells #[.string n, .string h, .string u, .slice a1 vars.length cap1, .slice a2 cons.length cap2] 25)
  have hP : w.heap.size < (w.alloc (.cells #[.string n, .string h, .string u, .slice a1 vars.length cap1, .slice a2 cons.length cap2] 25)).heap.size := by simp
  generalize (w.alloc (.cells #[.string n, .string h, .string u, .slice a1 vars.length cap1, .slice a2 cons.length cap2] 25)) = w1 at *
  have c3 : w1.cell? ⟨w.heap.size, 3, none⟩ = some (.slice a1 vars.length cap1) := by rw [Lib.cell_of_heap hM]; rfl
  have HN0 := Lib.hid (rowNew w1 w.heap.size hb1.size)
  have hb1' := hb1.alloc hb1.size (.cells #[] 9)
  have HVA := Lib.hid (HV1.out.below hb1')
  have HB1' := Lib.hid hb1'
  have HM := Lib.hid hM
  have hs1 := hb1'.size
  clear hM hb1'
  go_wp2_with (at_builtin; go_must (refine ap_strs rfl _ _ rfl rfl rfl HN0.out HVA.out (by omega) hs1 ?_))
  intro nv w2 ho2 hg2
  have hb2 : Below w.heap.size w w2 := HB1'.out.grown hg2 hs1 (fun q hq => by injection hq with hq; rw [← hq]; exact hb1.size)
  have hM2 : w2.heap[w.heap.size]? = _ := (hg2.block w.heap.size (by simp; omega) (fun e => by injection e with e; have : w.heap.size = w1.heap.size := e; omega)).trans ((Below.heap_alloc _ _ _ hP).trans HM.out)
  have c4 : w2.cell? ⟨w.heap.size, 4, none⟩ = some (.slice a2 cons.length cap2) := by rw [Lib.cell_of_heap hM2]; rfl
  have HF := Lib.hid (fitPairsO _ cons w2 (HV2.out.below hb2) hl2)
  have HO2 := Lib.hid ho2
  have HB2 := Lib.hid hb2
  clear hg2 c3 hM2 ho2 hb1 hP
  go_wp2_with (go_at_call 35; go_must (refine HF.out.mono ?_))
  rintro e w3 ⟨⟨fv, rfl, hf⟩, hb3⟩
  have hF := fit_len cons
  generalize hFF : fit cons = F at *
  have HFF := Lib.hid hFF
  have ho3 := (Chg.of_below hb3 Non).row HO2.out (fun q _ h => h)
  have hw3 := HB2.out.trans (hb3.mono HB2.out.size)
  have HSN : Hid (∀ q, nv.ownBlock = some q → q < w2.heap.size) := Lib.hid (fun q hq => (row_from HO2.out q hq).2)
  have HFR := Lib.hid hf
  have HFN : Hid (∀ q, fv.ownBlock = some q → ¬ nv.ownBlock = some q) := Lib.hid (fun q hq e => by have := HSN.out q e; have := (row_from hf q hq).1; omega)
  have HB3 := Lib.hid hw3
  have HW32 : Hid (w2.heap.size ≤ w3.heap.size) := Lib.hid hb3.size
  obtain ⟨a4, c4', rfl, hc4⟩ := own_shapeL hf
  clear hf hb3 hFF c4
  go_upto_block 0 with fail
  go_cut [3] (fun v wx => wx.ownsRow w.heap.size 9 1 v (vars.length + F.length) ((vars ++ F.map (·.1)).map Value.string) ∧ Below w.heap.size w wx)
  case first =>
    go_wp2_with fail
    go_loopw [3, 5] (fun v iv wx => ∃ k : Nat, k ≤ F.length ∧ iv = .int .i64 (k : Int) ∧ wx.ownsRow w.heap.size 9 1 v (vars.length + k) ((vars ++ (F.take k).map (·.1)).map Value.string) ∧ Chg (fun i => nv.ownBlock = some i) w3 wx ∧ Hid (∀ q, v.ownBlock = some q → nv.ownBlock = some q ∨ w3.heap.size ≤ q)) (fun _ iv _ => F.length - (intOf iv).toNat)
    case atStart => exact ⟨0, Nat.zero_le _, rfl, by simpa using ho3, Chg.refl _ _, Lib.hid (fun q hq => .inl hq)⟩
    case round =>
      obtain ⟨k, hk, rfl, hown, hch, HLO⟩ := hrel
      have HCH := Lib.hid hch
      have hbr : Below w.heap.size w wr := HB3.out.trans (hch.below (fun i hi => (row_from HO2.out i hi).1) HB3.out.size)
      by_cases hlt : k < F.length
      · have hlti : (k : Int) < (F.length : Int) := by omega
        have hfr := hch.row HFR.out HFN.out
        obtain ⟨g, rfl, hBg, hgl, q1, q2, q3⟩ := own_cellsE hfr (List.getElem?_eq_getElem hlt)
        have HTK : Hid ((vars ++ (F.take (k + 1)).map (·.1)).map Value.string = (vars ++ (F.take k).map (·.1)).map Value.string ++ [.string F[k].1]) := Lib.hid (by rw [List.take_succ_eq_append_getElem hlt]; simp only [List.map_append, List.append_assoc]; rfl)
        generalize F[k].1 = x at *
        have hwr := hbr.size
        clear hfr q2 q3 ho3
        go_wp2_with (at_builtin; go_must (refine wpList_append_own_at _ rfl _ _ 22 rfl w.heap.size 9 z0 (.string ⟨#[]⟩) 1 16 Tryz.underlying22 hzi hzz hzs hzb rfl (by decide) _ _ _ rfl (hown.alloc _) ⟨wr.heap.size, 0, none⟩ 1 1 [.string x] rfl rfl (cell_one_new _ _ _) (by simp [Value.oneCell']) (by unfold maxLen; omega) (by omega) (by simp; omega) ?_))
        intro v' wz hown3 hg3 hnil hloc
        have hch3 : Chg (fun i => nv.ownBlock = some i) w3 wz := HCH.out.grown ((World.grownBy_alloc wr _ _).trans hg3) (fun q hq => HLO.out q hq)
        have HLO3 : Hid (∀ q, v'.ownBlock = some q → nv.ownBlock = some q ∨ w3.heap.size ≤ q) := Lib.hid (fun q hq => by
          rcases hloc with h | h
          · exact HLO.out q (h.symm.trans hq)
          · rw [h] at hq; injection hq with hq; rw [← hq]; exact .inr (by have := HCH.out.size; simp; omega))
        clear hown hch hg3 hnil hloc
        go_wp2_with fail
        go_roundw
        case rel => exact ⟨k + 1, by omega, by go_num, by rw [HTK.out, ← Nat.add_assoc]; simpa using hown3, hch3, HLO3⟩
        case measure => simp [intOf]; omega
      · have hlti : ¬ (k : Int) < (F.length : Int) := by omega
        obtain rfl : k = F.length := by omega
        rw [List.take_length] at hown
        clear ho3 hch
        go_wp2_with fail
        go_meet
        case rel => exact ⟨hown, hbr⟩
  case rest =>
    obtain ⟨hown, hbr⟩ := hcut
    generalize wc = w5 at *
    have hnl : (vars ++ F.map (·.1)).length = vars.length + F.length := by simp
    clear ho3 hw3
    generalize hnn : vars ++ F.map (·.1) = names at *
    rw [← hnl] at hown
    have hnl2 : names.length ≤ 8388608 := by omega
    clear hnl
    obtain ⟨a5, c5, rfl, hc5⟩ := own_shapeL hown
    go_wp2_with fail
    go_loopw [6] (fun iv wx => ∃ k : Nat, k ≤ names.length ∧ iv = .int .i64 (k : Int) ∧ wx.ownsRow w.heap.size 9 1 (.slice a5 names.length c5) names.length (names.map Value.string) ∧ Below w.heap.size w wx) (fun iv _ => names.length - (intOf iv).toNat)
    case atStart => exact ⟨0, Nat.zero_le _, rfl, hown, hbr⟩
    case round =>
      obtain ⟨k, hk, rfl, hown6, hb6⟩ := hrel
      by_cases hlt : k < names.length
      · have hlti : (k : Int) < (names.length : Int) := by omega
        obtain ⟨N, cN, e1⟩ := row_shape hown6 (by omega)
        injection e1 with e1 _ e3
        subst e1 e3
        have ck : wr.cell? ⟨N, k, none⟩ = some (.string names[k]) := (row_at hown6).2.2.2.2 k _ (by rw [List.getElem?_map, List.getElem?_eq_getElem hlt]; rfl)
        have hkc : k ≤ c5 := by omega
        have hkci : (k : Int) ≤ (c5 : Int) := by omega
        have HIN : Hid (∀ m, Calls Tryz.prog 36 #[.string names[k], .slice (some ⟨N, 0, none⟩) k c5] (wr.drewN m) fun e w' => e = .returned (.bool (inB names[k] (names.take k))) ∧ (wr.drewN m) = w') := Lib.hid (fun m => inK _ _ _ _ (rdC_take (((Chg.refl Non wr).drewN m).row hown6 (fun q _ h => h)) k hk))
        have HND : Hid (inB names[k] (names.take k) = true → ¬ names.Nodup) := Lib.hid (fun h => nodup_not hlt (inB_iff.1 h))
        have HOW := Lib.hid hown6
        generalize names[k] = x at *
        generalize inB x (names.take k) = bb at *
        clear hown hown6 hbr
        go_upto_region 10 with fail
        go_quiet ((go_at_call 36; exact qsame (HIN.out _)))
        cases bb with
        | true =>
          have HND2 := Lib.hid (HND.out rfl)
          go_wp2_with fail
          go_ret
          exact ⟨⟨_, rfl, fun _ => by rw [← HFF.out] at hnn; rw [hnn]; exact HND2.out⟩, below_drewN hb6 _⟩
        | false =>
          go_wp2_with fail
          go_roundw
          case rel => exact ⟨k + 1, by omega, by go_num, ((Chg.refl Non wr).drewN _).row HOW.out (fun q _ h => h), below_drewN hb6 _⟩
          case measure => simp [intOf]; omega
      · have hlti : ¬ (k : Int) < (names.length : Int) := by omega
        clear hown hown6 hbr
        go_wp2_with fail
        go_ret
        exact ⟨⟨_, rfl, fun h => by cases h⟩, hb6⟩
end Go.Proofs.YtojlpfakdodnfaaGreatDoor
