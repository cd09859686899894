/- The bounds on sizes (zzFits3 .. zzFits6) where all is small; pairsTo. -/
import Derived.Test.YtojlpfakdodnfaaGreatDoorPrs
import Derived.Test.YtojlpfakdodnfaaGreatDoorChg
import Derived.Maps.AppendAt
import Derived.Deep.DeepMust
import Derived.Deep.AppendLies
import Derived.Laws.Rows
import Derived.Laws.Alloc2
set_option linter.unusedVariables false
set_option linter.unusedSimpArgs false
namespace Go.Proofs.YtojlpfakdodnfaaGreatDoor
open Go.RowKit

set_option maxHeartbeats 800000 in
set_option maxRecDepth 100000 in
theorem fits3 (v : Value) (xs : List ByteArray) (w : World) (hv : RdC Value.string w v xs) (hl : xs.length ≤ 4194304) (hsz : ∀ x ∈ xs, x.size ≤ 4194304) :
    Calls Tryz.prog 15 #[v] w fun e w' => e = .returned (.bool true) ∧ w = w' := by
  have HSZ := Lib.hid hsz
  clear hsz
  obtain ⟨a, cap, b, off, rfl, hcap, hmx, ha, hc⟩ := hv
  unfold maxLen at hmx
  go_enter Tryz.func15, Tryz.ntmps15
  go_wp2_with fail
  go_loop [10] (fun i => ∃ k : Nat, k ≤ xs.length ∧ i = .int .i64 k) (fun i => xs.length - (intOf i).toNat)
  case atStart => exact ⟨0, Nat.zero_le _, rfl⟩
  case round =>
    obtain ⟨k, hk, rfl⟩ := hrel
    by_cases hlt : k < xs.length
    · obtain rfl : a = some ⟨b, off, none⟩ := by
        rcases ha with h | h
        · rw [h] at hlt; exact absurd hlt (Nat.not_lt_zero _)
        · exact h
      have c1 := hc k xs[k] (List.getElem?_eq_getElem hlt)
      have hm1 := HSZ.out xs[k] (List.getElem_mem _)
      clear hc
      generalize xs[k] = y at *
      go_wp2_with fail
      go_round
      case rel => exact ⟨k + 1, by omega, by go_num⟩
      case measure => simp [intOf]; omega
    · go_wp2_with fail
      go_ret
      exact ⟨rfl, rfl⟩
set_option maxRecDepth 100000 in
theorem fits6 (x : Ent) (h1 : x.1.size ≤ 4194304) (h2 : x.2.size ≤ 4194304) (w : World) :
    Calls Tryz.prog 41 #[.agg #[.string x.1, .string x.2]] w fun e w' => e = .returned (.bool true) ∧ Below w.heap.size w w' := by
  go_enter Tryz.func41, Tryz.ntmps41
  go_wp2_with fail
  go_ret
  exact ⟨rfl, (Below.refl _ w).alloc (Nat.le_refl _) _⟩
def Tiny (x : Ent) : Prop := x.1.size ≤ 4194304 ∧ x.2.size ≤ 4194304
set_option maxHeartbeats 1600000 in
set_option maxRecDepth 100000 in
theorem fits5 (v : Value) (xs : List Ent) (w : World) (hv : RdE w v xs) (hl : xs.length ≤ 4194304) (hsz : ∀ x ∈ xs, Tiny x) :
    Calls Tryz.prog 21 #[v] w fun e w' => e = .returned (.bool true) ∧ Below w.heap.size w w' := by
  have HSZ := Lib.hid hsz
  clear hsz
  obtain ⟨a, cap, b, off, rfl, hcap, hmx, ha, hc⟩ := hv
  unfold maxLen at hmx
  have HC := Lib.hid hc
  clear hc
  go_enter Tryz.func21, Tryz.ntmps21
  go_wp2_with fail
  go_loopw [10] (fun i wx => ∃ k : Nat, k ≤ xs.length ∧ i = .int .i64 (k : Int) ∧ Below w.heap.size w wx) (fun i _ => xs.length - (intOf i).toNat)
  case atStart => exact ⟨0, Nat.zero_le _, rfl, Below.refl _ _⟩
  case round =>
    obtain ⟨k, hk, rfl, hbr⟩ := hrel
    by_cases hlt : k < xs.length
    · obtain rfl : a = some ⟨b, off, none⟩ := by
        rcases ha with h | h
        · rw [h] at hlt; exact absurd hlt (Nat.not_lt_zero _)
        · exact h
      obtain ⟨c1, c2⟩ := HC.out k xs[k] (List.getElem?_eq_getElem hlt)
      have d1 := (hbr.cell (p := ⟨b, off + k * 2, none⟩) (World.block_lt_of_cell? w _ c1)).trans c1
      have d2 := (hbr.cell (p := ⟨b, off + k * 2 + 1, none⟩) (World.block_lt_of_cell? w _ c2)).trans c2
      have hm1 := HSZ.out xs[k] (List.getElem_mem _)
      clear c1 c2
      generalize xs[k] = y at *
      obtain ⟨s, t⟩ := y
      have H6 := fun z => Lib.hid (fits6 (s, t) hm1.1 hm1.2 z)
      simp only at d1 d2
      go_wp2_with (go_at_call 41; go_must (refine (H6 _).out.mono ?_))
      first | rintro e w2 rfl hb2 | rintro e w2 ⟨rfl, hb2⟩
      have hb3 := (hbr.alloc hbr.size (.cells #[.string s, .string t] 53)).trans (hb2.mono (by have := hbr.size; simp; omega))
      clear H6 hb2
      go_wp2_with fail
      go_roundw
      case rel => exact ⟨k + 1, by omega, by go_num, hb3⟩
      case measure => simp [intOf]; omega
    · go_wp2_with fail
      go_ret
      exact ⟨rfl, hbr⟩
set_option maxHeartbeats 800000 in
set_option maxRecDepth 100000 in
theorem fits4 (n h u : ByteArray) (v1 v2 : Value) (xs : List ByteArray) (ps : List Ent) (w : World) (hn : n.size ≤ 4194304) (hh : h.size ≤ 4194304) (hu : u.size ≤ 4194304)
    (hv1 : RdC Value.string w v1 xs) (hl1 : xs.length ≤ 4194304) (hs1 : ∀ x ∈ xs, x.size ≤ 4194304) (hv2 : RdE w v2 ps) (hl2 : ps.length ≤ 4194304) (hs2 : ∀ x ∈ ps, Tiny x) :
    Calls Tryz.prog 7 #[.agg #[.string n, .string h, .string u, v1, v2]] w fun e w' => e = .returned (.bool true) ∧ Below w.heap.size w w' := by
  have H3 : Hid (∀ z, Below w.heap.size w z → Calls Tryz.prog 15 #[v1] z fun e w' => e = .returned (.bool true) ∧ z = w') := Lib.hid (fun z hz => fits3 v1 xs z (hv1.below hz) hl1 hs1)
  have H5 : Hid (∀ z, Below w.heap.size w z → Calls Tryz.prog 21 #[v2] z fun e w' => e = .returned (.bool true) ∧ Below z.heap.size z w') := Lib.hid (fun z hz => fits5 v2 ps z (hv2.below hz) hl2 hs2)
  have HB := Lib.hid ((Below.refl _ w).alloc (Nat.le_refl _) (.cells #[.string n, .string h, .string u, v1, v2] 25))
  obtain ⟨a1, cap1, b1, o1, rfl, _⟩ := hv1
  obtain ⟨a2, cap2, b2, o2, rfl, _⟩ := hv2
  go_enter Tryz.func7, Tryz.ntmps7
  go_wp2_with (go_at_call 15; go_must (refine (H3.out _ HB.out).mono ?_))
  first | rintro e w2 rfl rfl | rintro e w2 ⟨rfl, rfl⟩
  go_wp2_with (go_at_call 21; go_must (refine (H5.out _ HB.out).mono ?_))
  first | rintro e w2 rfl hb2 | rintro e w2 ⟨rfl, hb2⟩
  have hb3 := HB.out.trans (hb2.mono HB.out.size)
  go_wp2_with fail
  go_ret
  exact ⟨rfl, hb3⟩
/-- What pairsTo, pairsFrom answer. -/
def SaidP (xs : List Ent) (w w' : World) (e : Ending) : Prop := (∃ v, e = .returned v ∧ RdE w' v xs) ∧ Below w.heap.size w w'
set_option maxRecDepth 100000 in
theorem pairTo (s t : ByteArray) (w : World) : Calls Tryz.prog 46 #[.agg #[.string s, .string t]] w fun e w' => e = .returned (.agg #[.string s, .string t]) ∧ Below w.heap.size w w' := by
  go_enter Tryz.func46, Tryz.ntmps46
  go_wp2_with fail
  refine bodyPost_ret (results_cell_row rfl _ _ (w.heap.size + 1) 68 #[.string s, .string t] (0, 0) _ rfl (heap_alloc2_new w _ _) Tryz.underlying68 rfl (by kernel_rfl)) rfl ?_
  exact ⟨rfl, ((Below.refl _ w).alloc (Nat.le_refl _) _).alloc (by simp) _⟩
def SaidTO (xs : List Ent) (w w' : World) (e : Ending) : Prop := (∃ v, e = .returned v ∧ w'.ownsRow w.heap.size 68 2 v xs.length (twoV xs)) ∧ Below w.heap.size w w'
theorem info_pr : (Tryz.prog.info? 68).map (fun i => (i.zero, i.size, i.bytes)) = some (some (.agg #[.string ⟨#[]⟩, .string ⟨#[]⟩]), 2, 32) := by kernel_rfl
set_option maxHeartbeats 1600000 in
set_option maxRecDepth 100000 in
theorem pairsToO (v : Value) (xs : List Ent) (w : World) (hv : RdE w v xs) (hl : xs.length ≤ 4194304) :
    Calls Tryz.prog 25 #[v] w fun e w' => SaidTO xs w w' e := by
  obtain ⟨a, cap, b, off, rfl, hcap, hmx, ha, hc⟩ := hv
  unfold maxLen at hmx
  have HC := Lib.hid hc
  clear hc
  obtain ⟨z0, hzi, hzz, hzs, hzb⟩ := info_parts info_pr
  go_enter Tryz.func25, Tryz.ntmps25
  go_wp2_with fail
  go_loopw [3, 4] (fun o i wx => ∃ k : Nat, k ≤ xs.length ∧ i = .int .i64 (k : Int) ∧ wx.ownsRow w.heap.size 68 2 o k (twoV (xs.take k)) ∧ Below w.heap.size w wx) (fun _ i _ => xs.length - (intOf i).toNat)
  case atStart => exact ⟨0, Nat.zero_le _, rfl, ⟨rfl, .inl ⟨rfl, rfl⟩⟩, Below.refl _ _⟩
  case round =>
    obtain ⟨k, hk, rfl, hown, hbr⟩ := hrel
    by_cases hlt : k < xs.length
    · obtain rfl : a = some ⟨b, off, none⟩ := by
        rcases ha with h | h
        · rw [h] at hlt; exact absurd hlt (Nat.not_lt_zero _)
        · exact h
      obtain ⟨c1, c2⟩ := HC.out k xs[k] (List.getElem?_eq_getElem hlt)
      have d1 := (hbr.cell (p := ⟨b, off + k * 2, none⟩) (World.block_lt_of_cell? w _ c1)).trans c1
      have d2 := (hbr.cell (p := ⟨b, off + k * 2 + 1, none⟩) (World.block_lt_of_cell? w _ c2)).trans c2
      have HTK : Hid (twoV (xs.take (k + 1)) = twoV (xs.take k) ++ [.string xs[k].1, .string xs[k].2]) := Lib.hid (by rw [List.take_succ_eq_append_getElem hlt, twoV_snoc])
      clear c1 c2
      generalize xs[k] = y at *
      obtain ⟨s, t⟩ := y
      simp only at d1 d2 HTK
      generalize xs.take k = l0 at *
      have hwr := hbr.size
      go_wp2_with (go_at_call 46; go_must (refine (pairTo _ _ _).mono ?_))
      first | rintro e w2 rfl hb2 | rintro e w2 ⟨rfl, hb2⟩
      have hrow2 := (Chg.of_below hb2 Non).row hown (fun q _ h => h)
      have hb3 := hbr.trans (hb2.mono hwr)
      have hw2 := hb3.size
      clear hown hb2 d1 d2
      go_wp2_with (at_builtin; go_must (refine wpList_append_own_at _ rfl _ _ 28 rfl w.heap.size 68 z0 (.agg #[.string ⟨#[]⟩, .string ⟨#[]⟩]) 2 32 Tryz.underlying28 hzi hzz hzs hzb rfl (by decide) _ _ _ rfl (hrow2.alloc _) ⟨w2.heap.size, 0, none⟩ 1 1 [.string s, .string t] rfl rfl (World.news_of_block (cs := #[.string s, .string t]) (t := 68) (fr := (0, 0)) (heap_alloc_new w2 _)) (by simp [Value.oneCell']) (by unfold maxLen; omega) (by omega) (by simp; omega) ?_))
      intro v' wz hown3 hg3 hnil hloc
      have hb4 : Below w.heap.size w wz := (hb3.alloc hw2 _).grown hg3 (by simp; omega) (fun q hq => (row_from hrow2 q hq).1)
      clear hrow2 hg3 hnil hloc
      go_wp2_with fail
      go_roundw
      case rel => exact ⟨k + 1, by omega, by go_num, by rw [HTK.out]; exact hown3, hb4⟩
      case measure => simp [intOf]; omega
    · have hkl : k = xs.length := by omega
      subst hkl
      rw [List.take_length] at hown
      have HR := Lib.hid hown
      clear hown
      go_wp2_with fail
      go_ret
      exact ⟨⟨_, rfl, HR.out⟩, hbr⟩
theorem pairsTo (v : Value) (xs : List Ent) (w : World) (hv : RdE w v xs) (hl : xs.length ≤ 4194304) :
    Calls Tryz.prog 25 #[v] w fun e w' => SaidP xs w w' e :=
  (pairsToO v xs w hv hl).mono fun e w' ⟨⟨v', h1, h2⟩, h3⟩ => ⟨⟨v', h1, RdE.of_owns h2⟩, h3⟩
end Go.Proofs.YtojlpfakdodnfaaGreatDoor
