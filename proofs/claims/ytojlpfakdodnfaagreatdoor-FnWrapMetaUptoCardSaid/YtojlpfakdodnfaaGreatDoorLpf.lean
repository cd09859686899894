/- impl.pairs, pairsFrom, SamePairs, SayValues. -/
import Derived.Test.YtojlpfakdodnfaaGreatDoorLp
import Derived.Test.YtojlpfakdodnfaaGreatDoorAlk3a
set_option linter.unusedVariables false
set_option linter.unusedSimpArgs false
namespace Go.Proofs.YtojlpfakdodnfaaGreatDoor
open Go.RowKit

set_option maxHeartbeats 1600000 in
set_option maxRecDepth 100000 in
theorem pairsK (v : Value) (xs : List Ent) (w : World) (hv : RdLP w v xs) (hl : xs.length ≤ 8388608) :
    Calls Tryz.prog 39 #[v] w fun e w' => SaidTO xs w w' e := by
  obtain ⟨a, cap, b, off, rfl, hcap, hmx, ha, hc⟩ := hv
  unfold maxLen at hmx
  have HC := Lib.hid hc
  clear hc
  obtain ⟨z0, hzi, hzz, hzs, hzb⟩ := info_parts info_pr
  go_enter Tryz.func39, Tryz.ntmps39
  go_wp2_with fail
  go_loopw [3, 8] (fun o i wx => ∃ k : Nat, k ≤ xs.length ∧ i = .int .i64 (k : Int) ∧ wx.ownsRow w.heap.size 68 2 o k (twoV (xs.take k)) ∧ Below w.heap.size w wx) (fun _ i _ => xs.length - (intOf i).toNat)
  case atStart => exact ⟨0, Nat.zero_le _, rfl, ⟨rfl, .inl ⟨rfl, rfl⟩⟩, Below.refl _ _⟩
  case round =>
    obtain ⟨k, hk, rfl, hown, hbr⟩ := hrel
    by_cases hlt : k < xs.length
    · have hlti : (k : Int) < (xs.length : Int) := by omega
      obtain rfl : a = some ⟨b, off, none⟩ := by
        rcases ha with h | h
        · rw [h] at hlt; exact absurd hlt (Nat.not_lt_zero _)
        · exact h
      obtain ⟨pv, c1, hp⟩ := HC.out k xs[k] (List.getElem?_eq_getElem hlt)
      have d1 := (hbr.cell (p := ⟨b, off + k, none⟩) (World.block_lt_of_cell? w _ c1)).trans c1
      have HTK : Hid (twoV (xs.take (k + 1)) = twoV (xs.take k) ++ [.string xs[k].1, .string xs[k].2]) := Lib.hid (by rw [List.take_succ_eq_append_getElem hlt, twoV_snoc])
      have hp2 := hp.below hbr
      have HGN := Lib.hid (getName pv xs[k] wr hp2)
      have HGV := Lib.hid (getValue pv xs[k] wr hp2)
      obtain ⟨pb, bn, bv, rfl, _⟩ := hp
      clear c1 hp2
      generalize xs[k] = y at *
      obtain ⟨s, t⟩ := y
      simp only at HTK HGN HGV
      generalize xs.take k = l0 at *
      have hwr := hbr.size
      have HOWN := Lib.hid hown
      go_wp2_with (first
        | (go_at_call 51; go_must (refine HGN.out.mono ?_); first | rintro e w6 rfl rfl | rintro e w6 ⟨rfl, rfl⟩)
        | (go_at_call 52; go_must (refine HGV.out.mono ?_); first | rintro e w6 rfl rfl | rintro e w6 ⟨rfl, rfl⟩)
        | (at_builtin; go_must (refine wpList_append_own_at _ rfl _ _ 28 rfl w.heap.size 68 z0 (.agg #[.string ⟨#[]⟩, .string ⟨#[]⟩]) 2 32 Tryz.underlying28 hzi hzz hzs hzb rfl (by decide) _ _ _ rfl (hown.alloc _) ⟨wr.heap.size, 0, none⟩ 1 1 [.string s, .string t] rfl rfl (World.news_of_block (cs := #[.string s, .string t]) (t := 68) (fr := (0, 0)) (heap_alloc_new wr _)) (by simp [Value.oneCell']) (by unfold maxLen; omega) (by omega) (by simp; omega) ?_)))
      intro v' wz hown3 hg3 hnil hloc
      have hb4 : Below w.heap.size w wz := (hbr.alloc hwr _).grown hg3 (by simp; omega) (fun q hq => (row_from HOWN.out q hq).1)
      clear hown hg3 hnil hloc
      go_wp2_with fail
      go_roundw
      case rel => exact ⟨k + 1, by omega, by go_num, by rw [HTK.out]; exact hown3, hb4⟩
      case measure => simp [intOf]; omega
    · have hlti : ¬ (k : Int) < (xs.length : Int) := by omega
      have hkl : k = xs.length := by omega
      subst hkl
      rw [List.take_length] at hown
      have HR := Lib.hid hown
      clear hown
      go_wp2_with fail
      go_ret
      exact ⟨⟨_, rfl, HR.out⟩, hbr⟩
set_option maxRecDepth 100000 in
theorem pairFromK (s t : ByteArray) (w : World) : Calls Tryz.prog 40 #[.agg #[.string s, .string t]] w fun e w' => e = .returned (.agg #[.string s, .string t]) ∧ Below w.heap.size w w' := by
  go_enter Tryz.func40, Tryz.ntmps40
  go_wp2_with fail
  refine bodyPost_ret (results_cell_row rfl _ _ (w.heap.size + 1) 53 #[.string s, .string t] (0, 0) _ rfl (heap_alloc2_new w _ _) Tryz.underlying53 rfl (by kernel_rfl)) rfl ?_
  exact ⟨rfl, ((Below.refl _ w).alloc (Nat.le_refl _) _).alloc (by simp) _⟩
set_option maxHeartbeats 1600000 in
set_option maxRecDepth 100000 in
theorem pairsFromK (v : Value) (xs : List Ent) (w : World) (hv : RdE w v xs) (hl : xs.length ≤ 8388608) :
    Calls Tryz.prog 19 #[v] w fun e w' => SaidPO xs w w' e := by
  obtain ⟨a, cap, b, off, rfl, hcap, hmx, ha, hc⟩ := hv
  unfold maxLen at hmx
  have HC := Lib.hid hc
  clear hc
  obtain ⟨z0, hzi, hzz, hzs, hzb⟩ := info_parts info_spr
  go_enter Tryz.func19, Tryz.ntmps19
  go_wp2_with fail
  go_loopw [3, 4] (fun o i wx => ∃ k : Nat, k ≤ xs.length ∧ i = .int .i64 (k : Int) ∧ wx.ownsRow w.heap.size 53 2 o k (twoV (xs.take k)) ∧ Below w.heap.size w wx) (fun _ i _ => xs.length - (intOf i).toNat)
  case atStart => exact ⟨0, Nat.zero_le _, rfl, ⟨rfl, .inl ⟨rfl, rfl⟩⟩, Below.refl _ _⟩
  case round =>
    obtain ⟨k, hk, rfl, hown, hbr⟩ := hrel
    by_cases hlt : k < xs.length
    · obtain rfl : a = some ⟨b, off, none⟩ := by
        rcases ha with h | h
        · rw [h] at hlt; exact absurd hlt (Nat.not_lt_zero _)
        · exact h
      obtain ⟨c1, c2⟩ := HC.out k xs[k] (List.getElem?_eq_getElem hlt)
      have d1 := (hbr.cell (p := ⟨b, off + k * 2, none⟩) (World.block_lt_of_cell? w _ c1)).trans c1
      have d2 := (hbr.cell (p := ⟨b, off + k * 2 + 1, none⟩) (World.block_lt_of_cell? w _ c2)).trans c2
      have HTK : Hid (twoV (xs.take (k + 1)) = twoV (xs.take k) ++ [.string xs[k].1, .string xs[k].2]) := Lib.hid (by rw [List.take_succ_eq_append_getElem hlt, twoV_snoc])
      clear c1 c2
      generalize xs[k] = y at *
      obtain ⟨s, t⟩ := y
      simp only at d1 d2 HTK
      generalize xs.take k = l0 at *
      have hwr := hbr.size
      go_wp2_with (go_at_call 40; go_must (refine (pairFromK _ _ _).mono ?_))
      first | rintro e w2 rfl hb2 | rintro e w2 ⟨rfl, hb2⟩
      have hrow2 := (Chg.of_below hb2 Non).row hown (fun q _ h => h)
      have hb3 := hbr.trans (hb2.mono hwr)
      have hw2 := hb3.size
      clear hown hb2 d1 d2
      go_wp2_with (at_builtin; go_must (refine wpList_append_own_at _ rfl _ _ 23 rfl w.heap.size 53 z0 (.agg #[.string ⟨#[]⟩, .string ⟨#[]⟩]) 2 32 Tryz.underlying23 hzi hzz hzs hzb rfl (by decide) _ _ _ rfl (hrow2.alloc _) ⟨w2.heap.size, 0, none⟩ 1 1 [.string s, .string t] rfl rfl (World.news_of_block (cs := #[.string s, .string t]) (t := 53) (fr := (0, 0)) (heap_alloc_new w2 _)) (by simp [Value.oneCell']) (by unfold maxLen; omega) (by omega) (by simp; omega) ?_))
      intro v' wz hown3 hg3 hnil hloc
      have hb4 : Below w.heap.size w wz := (hb3.alloc hw2 _).grown hg3 (by simp; omega) (fun q hq => (row_from hrow2 q hq).1)
      clear hrow2 hg3 hnil hloc
      go_wp2_with fail
      go_roundw
      case rel => exact ⟨k + 1, by omega, by go_num, by rw [HTK.out]; exact hown3, hb4⟩
      case measure => simp [intOf]; omega
    · have hkl : k = xs.length := by omega
      subst hkl
      rw [List.take_length] at hown
      have HR := Lib.hid hown
      clear hown
      go_wp2_with fail
      go_ret
      exact ⟨⟨_, rfl, HR.out⟩, hbr⟩
set_option maxHeartbeats 1600000 in
set_option maxRecDepth 100000 in
theorem samePairsT (v1 v2 : Value) (xs : List Ent) (w : World) (h1 : RdE w v1 xs) (h2 : RdE w v2 xs) :
    Calls Tryz.prog 18 #[v1, v2] w fun e w' => e = .returned (.bool true) ∧ Below w.heap.size w w' := by
  obtain ⟨a, cap, b, off, rfl, hcap, hmx, ha, hc⟩ := h1
  obtain ⟨a', cap', b', off', rfl, hcap', hmx', ha', hc'⟩ := h2
  unfold maxLen at hmx hmx'
  have HC := Lib.hid hc
  have HD := Lib.hid hc'
  clear hc hc'
  go_enter Tryz.func18, Tryz.ntmps18
  go_wp2_with fail
  go_loopw [5] (fun i wx => ∃ k : Nat, k ≤ xs.length ∧ i = .int .i64 (k : Int) ∧ Below w.heap.size w wx) (fun i _ => xs.length - (intOf i).toNat)
  case atStart => exact ⟨0, Nat.zero_le _, rfl, Below.refl _ _⟩
  case round =>
    obtain ⟨k, hk, rfl, hbr⟩ := hrel
    have HBR := Lib.hid hbr
    by_cases hlt : k < xs.length
    · have hlti : (k : Int) < (xs.length : Int) := by omega
      obtain rfl : a = some ⟨b, off, none⟩ := by
        rcases ha with h | h
        · rw [h] at hlt; exact absurd hlt (Nat.not_lt_zero _)
        · exact h
      obtain rfl : a' = some ⟨b', off', none⟩ := by
        rcases ha' with h | h
        · rw [h] at hlt; exact absurd hlt (Nat.not_lt_zero _)
        · exact h
      obtain ⟨c1, c2⟩ := HC.out k xs[k] (List.getElem?_eq_getElem hlt)
      obtain ⟨c3, c4⟩ := HD.out k xs[k] (List.getElem?_eq_getElem hlt)
      have d1 := (hbr.cell (p := ⟨b, off + k * 2, none⟩) (World.block_lt_of_cell? w _ c1)).trans c1
      have d2 := (hbr.cell (p := ⟨b, off + k * 2 + 1, none⟩) (World.block_lt_of_cell? w _ c2)).trans c2
      have d3 := (hbr.cell (p := ⟨b', off' + k * 2, none⟩) (World.block_lt_of_cell? w _ c3)).trans c3
      have d4 := (hbr.cell (p := ⟨b', off' + k * 2 + 1, none⟩) (World.block_lt_of_cell? w _ c4)).trans c4
      clear c1 c2 c3 c4 hbr
      generalize xs[k] = y at *
      obtain ⟨s, t⟩ := y
      simp only at d1 d2 d3 d4
      go_upto_region 6 with fail
      go_quiet (fail)
      go_wp2_with fail
      go_roundw
      case rel => exact ⟨k + 1, by omega, by go_num, below_drewN HBR.out _⟩
      case measure => simp [intOf]; omega
    · have hlti : ¬ (k : Int) < (xs.length : Int) := by omega
      go_wp2_with fail
      go_ret
      exact ⟨rfl, HBR.out⟩
set_option maxHeartbeats 1600000 in
set_option maxRecDepth 100000 in
theorem sayVals (D : Dsc) (v1 v2 v3 : Value) (vals : List ByteArray) (w : World) (hv1 : RdC Value.string w v1 D.vars) (hv2 : RdE w v2 D.cons) (hv : RdC Value.string w v3 vals) (hsz : ∀ x ∈ vals, x.size ≤ 4194304) :
    Calls Tryz.prog 16 #[MetaV D.name D.help D.unit v1 v2, v3] w fun e w' => SaidB ((∀ x ∈ vals, prnS x = true) ∧ vals.length = D.vars.length) w w' e := by
  have HSZ := Lib.hid hsz
  clear hsz
  obtain ⟨a1, cap1, b1, o1, rfl, _⟩ := hv1
  obtain ⟨a2, cap2, b2, o2, rfl, _⟩ := hv2
  obtain ⟨a, cap, b, off, rfl, hcap, hmx, ha, hc⟩ := hv
  unfold maxLen at hmx
  have HC := Lib.hid hc
  clear hc
  go_enter Tryz.func16, Tryz.ntmps16
  go_upto_region 1 with fail
  have hM := heap_alloc_new w (.cells #[.string D.name, .string D.help, .string D.unit, .slice a1 D.vars.length cap1, .slice a2 D.cons.length cap2] 25)
  have hb1 := (Below.refl _ w).alloc (Nat.le_refl _) (.cells #[.string D.name, .string D.help, .string D.unit, .slice a1 D.vars.length cap1, .slice a2 D.cons.length cap2] 25)
  generalize (w.alloc (.cells #[.string D.name, .string D.help, .string D.unit, .slice a1 D.vars.length cap1, .slice a2 D.cons.length cap2] 25)) = w1 at *
  have c3 : w1.cell? ⟨w.heap.size, 3, none⟩ = some (.slice a1 D.vars.length cap1) := by rw [Lib.cell_of_heap hM]; rfl
  have HB1 := Lib.hid hb1
  clear hM hb1
  go_wp2_with fail
  go_loop [5] (fun i => ∃ k : Nat, k ≤ vals.length ∧ i = .int .i64 k ∧ Hid (∀ x ∈ vals.take k, prnS x = true)) (fun i => vals.length - (intOf i).toNat)
  case atStart => exact ⟨0, Nat.zero_le _, rfl, Lib.hid (by simp)⟩
  case round =>
    obtain ⟨k, hk, rfl, HP0⟩ := hrel
    by_cases hlt : k < vals.length
    · have hlti : (k : Int) < (vals.length : Int) := by omega
      obtain rfl : a = some ⟨b, off, none⟩ := by
        rcases ha with h | h
        · rw [h] at hlt; exact absurd hlt (Nat.not_lt_zero _)
        · exact h
      have c1 := HC.out k vals[k] (List.getElem?_eq_getElem hlt)
      have d1 := (HB1.out.cell (p := ⟨b, off + k, none⟩) (World.block_lt_of_cell? w _ c1)).trans c1
      have hm1 := HSZ.out vals[k] (List.getElem_mem _)
      have HT : Hid (prnS vals[k] = true → ∀ x ∈ vals.take (k + 1), prnS x = true) := Lib.hid (fun h x hx => by
        rw [List.take_succ_eq_append_getElem hlt] at hx
        rcases List.mem_append.1 hx with hx | hx
        · exact HP0.out x hx
        · rw [List.mem_singleton.1 hx]; exact h)
      clear c1
      generalize vals[k] = y at *
      have HAS := Lib.hid (ascii y w1 (by omega))
      cases hy : prnS y with
      | false =>
        rw [hy] at HAS
        clear hy HT hm1
        go_wp2_with (go_at_call 34; go_must (refine HAS.out.mono ?_); first | rintro e w5 rfl rfl | rintro e w5 ⟨rfl, rfl⟩)
        go_ret
        exact ⟨⟨_, rfl, fun h => by cases h⟩, HB1.out⟩
      | true =>
        rw [hy] at HAS
        have HT2 := Lib.hid (HT.out hy)
        clear hy HT hm1
        go_wp2_with (go_at_call 34; go_must (refine HAS.out.mono ?_); first | rintro e w5 rfl rfl | rintro e w5 ⟨rfl, rfl⟩)
        go_round
        case rel => exact ⟨k + 1, by omega, by go_num, HT2⟩
        case measure => simp [intOf]; omega
    · have hlti : ¬ (k : Int) < (vals.length : Int) := by omega
      have HALL : Hid (∀ x ∈ vals, prnS x = true) := Lib.hid (by have := HP0.out; rwa [List.take_of_length_le (by omega)] at this)
      by_cases he : vals.length = D.vars.length
      · have e1 : ((vals.length : Int) == (D.vars.length : Int)) = true := by simp; omega
        have HE := Lib.hid he
        clear he
        go_wp2_with fail
        go_ret
        exact ⟨⟨_, rfl, fun _ => ⟨HALL.out, HE.out⟩⟩, HB1.out⟩
      · have e1 : ((vals.length : Int) == (D.vars.length : Int)) = false := by simp; omega
        clear he
        go_wp2_with fail
        go_ret
        exact ⟨⟨_, rfl, fun h => by cases h⟩, HB1.out⟩
end Go.Proofs.YtojlpfakdodnfaaGreatDoor
