/- EditsRight. -/
import Derived.Test.YtkbppaddghfgpaaDif22
import Derived.Test.YtkbppaddghfgpaaDifE
set_option linter.unusedVariables false
set_option linter.unusedSimpArgs false
namespace Go.Proofs.Ytkbppaddghfgpaa
open Go.RowKit Go.Maps

theorem RdC.part {α : Type} {f : α → Value} {w : World} {p : Option Addr} {n cap : Nat} {xs : List α} (h : RdC f w (.slice p n cap) xs) (i j : Nat) (hij : i ≤ j) (hj : j ≤ xs.length) :
    RdC f w (.slice (Option.map (fun x => x.add i) p) (j - i) (cap - i)) ((xs.take j).drop i) := by
  obtain ⟨p', cap', b, off, he, hc, hm, hp, hcell⟩ := h
  injection he with e1 e2 e3
  subst e1 e2 e3
  have hlen : ((xs.take j).drop i).length = j - i := by rw [List.length_drop, List.length_take, Nat.min_eq_left hj]
  refine ⟨_, cap - i, b, off + i, by rw [hlen], by rw [hlen]; omega, by unfold maxLen at *; omega, ?_, fun t x hx => ?_⟩
  · rcases hp with h | h
    · left
      apply List.eq_nil_of_length_eq_zero
      rw [hlen]
      rw [h] at hj
      simp at hj
      omega
    · right; rw [h]; simp [Addr.add]
  · rw [List.getElem?_drop, List.getElem?_take] at hx
    split at hx
    · have := hcell _ _ hx
      rwa [← Nat.add_assoc] at this
    · cases hx
theorem Eqs.parts {a b : List ByteArray} {x y k x' y' : Nat} (h : Eqs a b x y k) (hx : x' = x + k) (hy : y' = y + k) : (a.take x').drop x = (b.take y').drop y := by
  subst hx hy
  apply List.ext_getElem?
  intro t
  rw [List.getElem?_drop, List.getElem?_drop, List.getElem?_take, List.getElem?_take]
  by_cases ht : t < k
  · rw [if_pos (by omega), if_pos (by omega)]
    exact h.2.2 t ht
  · rw [if_neg (by omega), if_neg (by omega)]

set_option maxHeartbeats 3200000 in
set_option maxRecDepth 100000 in
theorem editsRight {a b : List ByteArray} (v1 v2 v3 : Value) (ts : List Ed) (w : World) (hv1 : RdC Value.string w v1 a) (hv2 : RdC Value.string w v2 b) (hv3 : RdF w v3 ts) (hok : EdOk a b 0 0 none ts)
    (hla : a.length ≤ 2147483647) (hlb : b.length ≤ 2147483647) (hlt : ts.length ≤ 8589934592) :
    Calls Try.prog 22 #[v1, v2, v3] w fun e w' => e = .returned (.bool true) ∧ Below w.heap.size w w' := by
  have HV1 := Lib.hid hv1
  have HV2 := Lib.hid hv2
  obtain ⟨ap, acap, ab, aoff, rfl, hac, hamx, hap, hacell⟩ := hv1
  obtain ⟨bp, bcap, bb, boff, rfl, hbc, hbmx, hbp, hbcell⟩ := hv2
  obtain ⟨ep, ecap, eb, eoff, rfl, hec, hemx, hep, hecell⟩ := hv3
  unfold maxLen at hamx hbmx hemx
  have HAC := Lib.hid hacell
  have HBC := Lib.hid hbcell
  have HEC := Lib.hid hecell
  have HOK := Lib.hid hok
  clear hacell hbcell hecell hok
  go_enter Try.func22, Try.ntmps22
  go_wp2_with fail
  go_loopw [7, 8, 9] (fun v7 v8 v9 wr => ∃ (i j k : Nat) (prev : Option Bool), v7 = .int .i64 (i : Int) ∧ v8 = .int .i64 (j : Int) ∧ v9 = .int .i64 (k : Int) ∧ k ≤ ts.length ∧ Hid (EdOk a b i j prev (ts.drop k)) ∧ Hid (∀ p, ts[k - 1]? = some p → 0 < k → prev = some (p.tag == 101)) ∧ Below w.heap.size w wr)
    (fun _ _ v9 _ => ts.length - (intOf v9).toNat)
  case atStart => exact ⟨0, 0, 0, none, rfl, rfl, rfl, Nat.zero_le _, HOK, Lib.hid (fun p _ h => absurd h (Nat.lt_irrefl 0)), Below.refl _ _⟩
  case round =>
    obtain ⟨i, j, k, prev, rfl, rfl, rfl, hk, HE, HP, hbr⟩ := hrel
    by_cases hlt2 : k < ts.length
    · have hlt' : (k : Int) < (ts.length : Int) := by omega
      obtain rfl : ep = some ⟨eb, eoff, none⟩ := by
        rcases hep with h | h
        · rw [h] at hlt2; exact absurd hlt2 (Nat.not_lt_zero _)
        · exact h
      obtain ⟨c0, c1, c2, c3, c4⟩ := HEC.out k ts[k] (List.getElem?_eq_getElem hlt2)
      have hd := HE.out
      rw [List.drop_eq_getElem_cons hlt2] at hd
      have HP2 : Hid (∀ p, ts[k + 1 - 1]? = some p → 0 < k + 1 → some (ts[k].tag == 101) = some (p.tag == 101)) := Lib.hid (fun p hp _ => by
        rw [Nat.add_sub_cancel, List.getElem?_eq_getElem hlt2] at hp
        rw [Option.some.inj hp])
      generalize ts[k] = tr at *
      obtain ⟨tg, i1, i2, j1, j2⟩ := tr
      simp only [EdOk] at c0 c1 c2 c3 c4 hd HP2
      obtain ⟨rfl, rfl, g3, g4, g5, g6, g7, g8, g9⟩ := hd
      have HN := Lib.hid g9
      have H8 := Lib.hid g8
      have H7 := Lib.hid g7
      clear g7 g8 g9 HE
      have d0 := (hbr.cell (p := ⟨eb, eoff + k * 5, none⟩) (World.block_lt_of_cell? w _ c0)).trans c0
      have d1 := (hbr.cell (p := ⟨eb, eoff + k * 5 + 1, none⟩) (World.block_lt_of_cell? w _ c1)).trans c1
      have d2 := (hbr.cell (p := ⟨eb, eoff + k * 5 + 2, none⟩) (World.block_lt_of_cell? w _ c2)).trans c2
      have d3 := (hbr.cell (p := ⟨eb, eoff + k * 5 + 3, none⟩) (World.block_lt_of_cell? w _ c3)).trans c3
      have d4 := (hbr.cell (p := ⟨eb, eoff + k * 5 + 4, none⟩) (World.block_lt_of_cell? w _ c4)).trans c4
      clear c0 c1 c2 c3 c4
      go_upto_region 6 with fail
      have hR : (wr.alloc (.cells #[.int .u8 (tg : Int), .int .i64 (i1 : Int), .int .i64 (i2 : Int), .int .i64 (j1 : Int), .int .i64 (j2 : Int)] 50)).heap[wr.heap.size]? = some (.cells #[.int .u8 (tg : Int), .int .i64 (i1 : Int), .int .i64 (i2 : Int), .int .i64 (j1 : Int), .int .i64 (j2 : Int)] 50) := heap_alloc_new wr _
      have hb4 : Below w.heap.size w (wr.alloc (.cells #[.int .u8 (tg : Int), .int .i64 (i1 : Int), .int .i64 (i2 : Int), .int .i64 (j1 : Int), .int .i64 (j2 : Int)] 50)) := hbr.alloc hbr.size _
      clear d0 d1 d2 d3 d4 hbr
      generalize wr.alloc (.cells #[.int .u8 (tg : Int), .int .i64 (i1 : Int), .int .i64 (i2 : Int), .int .i64 (j1 : Int), .int .i64 (j2 : Int)] 50) = w4 at *
      generalize wr.heap.size = R at *
      have x0 : w4.cell? ⟨R, 0, none⟩ = some (.int .u8 (tg : Int)) := by rw [Lib.cell_of_heap hR]; rfl
      have x1 : w4.cell? ⟨R, 1, none⟩ = some (.int .i64 (i1 : Int)) := by rw [Lib.cell_of_heap hR]; rfl
      have x2 : w4.cell? ⟨R, 2, none⟩ = some (.int .i64 (i2 : Int)) := by rw [Lib.cell_of_heap hR]; rfl
      have x3 : w4.cell? ⟨R, 3, none⟩ = some (.int .i64 (j1 : Int)) := by rw [Lib.cell_of_heap hR]; rfl
      have x4 : w4.cell? ⟨R, 4, none⟩ = some (.int .i64 (j2 : Int)) := by rw [Lib.cell_of_heap hR]; rfl
      have f1 : decide ((i2 : Int) < (i1 : Int)) = false := by simp; omega
      have f2 : decide ((a.length : Int) < (i2 : Int)) = false := by simp; omega
      have f3 : decide ((j2 : Int) < (j1 : Int)) = false := by simp; omega
      have f4 : decide ((b.length : Int) < (j2 : Int)) = false := by simp; omega
      have f1n : decide (i2 < i1) = false := by simp; omega
      have f2n : decide (a.length < i2) = false := by simp; omega
      have f3n : decide (j2 < j1) = false := by simp; omega
      have f4n : decide (b.length < j2) = false := by simp; omega
      go_cut [75] (fun v75 wx => v75 = .bool false ∧ ∃ n, wx = w4.drewN n)
      case first =>
        by_cases hk0 : k = 0
        · have hkp : decide ((0 : Int) < (k : Int)) = false := by simp; omega
          have hkn : decide (0 < k) = false := by simp; omega
          have HK0 := Lib.hid hk0
          clear hk0
          go_big_quiet (fail)
          go_wp2_with fail
          go_meet
          case rel => exact ⟨rfl, nq, rfl⟩
        · have hkp : decide ((0 : Int) < (k : Int)) = true := by simp; omega
          have hkn : decide (0 < k) = true := by simp; omega
          have hk1 : k - 1 < ts.length := by omega
          have hp := HP.out ts[k - 1] (List.getElem?_eq_getElem hk1) (by omega)
          obtain ⟨p0, _⟩ := HEC.out (k - 1) ts[k - 1] (List.getElem?_eq_getElem hk1)
          have p0' : w4.cell? ⟨eb, eoff + (k - 1) * 5, none⟩ = some (.int .u8 (ts[k - 1].tag : Int)) := (hb4.cell (p := ⟨eb, eoff + (k - 1) * 5, none⟩) (World.block_lt_of_cell? w _ p0)).trans p0
          clear p0
          have hne : ¬ ((ts[k - 1].tag == 101) = (tg == 101)) := fun h => H7.out (by rw [hp, h])
          generalize ts[k - 1].tag = pt at *
          clear hp
          have hw1 : IntKind.i64.wrap ((k : Int) - 1) = ((k - 1 : Nat) : Int) := (IntWalk.i64_in _ ⟨by omega, by omega⟩).trans (by omega)
          have hx1 : ((k - 1 : Nat) : Int) < (ts.length : Int) := by omega
          by_cases ht : tg = 101
          · have e1 : ((tg : Int) == 101) = true := by simp; omega
            have e2 : ((pt : Int) == 101) = false := by
              simp
              intro h
              exact hne (by simp [ht]; omega)
            have HT := Lib.hid ht
            clear ht hne
            go_big_quiet (fail)
            go_wp2_with fail
            go_meet
            case rel => exact ⟨rfl, nq, rfl⟩
          · have e1 : ((tg : Int) == 101) = false := by simp; omega
            have e2 : ((pt : Int) == 101) = true := by
              by_cases h : pt = 101
              · rw [h]; rfl
              · refine absurd ?_ hne
                have q1 : (pt == 101) = false := by simp [h]
                have q2 : (tg == 101) = false := by simp [ht]
                rw [q1, q2]
            have HT := Lib.hid ht
            clear ht hne
            go_big_quiet (fail)
            go_wp2_with fail
            go_meet
            case rel => exact ⟨rfl, nq, rfl⟩
      case rest =>
        obtain ⟨rfl, n4, rfl⟩ := hcut
        have hR5 : (w4.drewN n4).heap[R]? = some (.cells #[.int .u8 (tg : Int), .int .i64 (i1 : Int), .int .i64 (i2 : Int), .int .i64 (j1 : Int), .int .i64 (j2 : Int)] 50) := hR
        have hb5 : Below w.heap.size w (w4.drewN n4) := ⟨hb4.os, hb4.tape, hb4.output, hb4.size, hb4.block⟩
        clear x0 x1 x2 x3 x4 hR hb4 f1 f2 f3 f4 f1n f2n f3n f4n
        generalize w4.drewN n4 = w5 at *
        haveI : Nonempty (Ext w5) := ⟨⟨w5, Below.refl _ _⟩⟩
        have hRlt : R < w5.heap.size := (Array.getElem?_eq_some_iff.1 hR5).1
        have hRx : ∀ x : Ext w5, x.val.heap[R]? = some (.cells #[.int .u8 (tg : Int), .int .i64 (i1 : Int), .int .i64 (i2 : Int), .int .i64 (j1 : Int), .int .i64 (j2 : Int)] 50) := fun x => (x.beyond.block R hRlt).trans hR5
        have y0 : ∀ x : Ext w5, x.val.cell? ⟨R, 0, none⟩ = some (.int .u8 (tg : Int)) := fun x => by rw [Lib.cell_of_heap (hRx x)]; rfl
        have y1 : ∀ x : Ext w5, x.val.cell? ⟨R, 1, none⟩ = some (.int .i64 (i1 : Int)) := fun x => by rw [Lib.cell_of_heap (hRx x)]; rfl
        have y2 : ∀ x : Ext w5, x.val.cell? ⟨R, 2, none⟩ = some (.int .i64 (i2 : Int)) := fun x => by rw [Lib.cell_of_heap (hRx x)]; rfl
        have y3 : ∀ x : Ext w5, x.val.cell? ⟨R, 3, none⟩ = some (.int .i64 (j1 : Int)) := fun x => by rw [Lib.cell_of_heap (hRx x)]; rfl
        have y4 : ∀ x : Ext w5, x.val.cell? ⟨R, 4, none⟩ = some (.int .i64 (j2 : Int)) := fun x => by rw [Lib.cell_of_heap (hRx x)]; rfl
        clear hRx
        by_cases ht : tg = 101
        · have e1 : ((tg : Int) == 101) = true := by simp; omega
          have h8 : i1 < i2 ∧ i2 - i1 = j2 - j1 ∧ Eqs a b i1 j1 (i2 - i1) := by
            rcases H8.out with ⟨_, h, h', h''⟩ | ⟨h, _⟩
            · exact ⟨h, h', h''⟩
            · exact absurd ht h
          obtain ⟨q1, q2, q3⟩ := h8
          have HQ := Lib.hid (q3.parts (x' := i2) (y' := j2) (by omega) (by omega))
          have HC : Hid (∀ x : Ext w5, Calls Try.prog 43 #[.slice (Option.map (fun x => x.add i1) ap) (i2 - i1) (acap - i1), .slice (Option.map (fun x => x.add j1) bp) (j2 - j1) (bcap - j1)] x.val fun e w' => e = .returned (.bool true) ∧ ∃ y : Ext w5, w' = y.val) := Lib.hid (fun x => by
            have hx := hb5.trans (x.beyond.mono hb5.size)
            have p1 := (HV1.out.below hx).part i1 i2 (by omega) (by omega)
            have p2 := (HV2.out.below hx).part j1 j2 (by omega) (by omega)
            rw [HQ.out] at p1
            exact (sameTexts _ _ _ x.val p1 p2).mono fun e w' h => ⟨h.1, ⟨w', x.beyond.trans (h.2.mono x.beyond.size)⟩, rfl⟩)
          have e3 : ((tg : Int) != 101) = false := by simp; omega
          have b5 : ¬ bcap = j1 := by omega
          have b6 : ¬ acap = i1 := by omega
          have Q2 := Lib.hid q2
          clear q2 q3
          have e2 : ((i2 : Int) == (i1 : Int)) = false := by simp; omega
          have b1 : (i1 : Int) ≤ (i2 : Int) := by omega
          have b2 : (i2 : Int) ≤ (acap : Int) := by omega
          have b3 : (j1 : Int) ≤ (j2 : Int) := by omega
          have b4 : (j2 : Int) ≤ (bcap : Int) := by omega
          have HT := Lib.hid ht
          clear ht
          go_upto_region 8 with fail
          refine wp_region_ext (Below.refl _ w5) (by kernel_rfl) (by kernel_rfl) ?_
          repeat (go_big_quiet_step (exact HC.out _))
          refine wpQuiet_nil ?_
          rintro w6 ⟨⟨_, hb6⟩, rfl⟩
          have hR6 := (hb6.block R hRlt).trans hR5
          have z2 : w6.cell? ⟨R, 2, none⟩ = some (.int .i64 (i2 : Int)) := by rw [Lib.cell_of_heap hR6]; rfl
          have z4 : w6.cell? ⟨R, 4, none⟩ = some (.int .i64 (j2 : Int)) := by rw [Lib.cell_of_heap hR6]; rfl
          have hb7 := hb5.trans (hb6.mono hb5.size)
          clear y0 y1 y2 y3 y4
          go_upto_region 10 with fail
          go_big_quiet (fail)
          have hb8 : Below w.heap.size w (w6.drewN nq) := ⟨hb7.os, hb7.tape, hb7.output, hb7.size, hb7.block⟩
          go_wp2_with fail
          go_roundw
          case rel => exact ⟨i2, j2, k + 1, some (tg == 101), rfl, rfl, by go_num, by omega, HN, HP2, hb8⟩
          case measure => simp [intOf]; omega
        · have e1 : ((tg : Int) == 101) = false := by simp; omega
          have h8 : tg ≠ 0 ∧ tagOf i1 i2 j1 j2 = tg := by
            rcases H8.out with ⟨h, _⟩ | ⟨_, h, h'⟩
            · exact absurd h ht
            · exact ⟨h, h'⟩
          have e2 : ((tg : Int) == 0) = false := by simp; omega
          have HC : Hid (∀ x : Ext w5, Calls Try.prog 44 #[.agg #[.int .u8 (tg : Int), .int .i64 (i1 : Int), .int .i64 (i2 : Int), .int .i64 (j1 : Int), .int .i64 (j2 : Int)]] x.val fun e w' => e = .returned (.int .u8 (tg : Int)) ∧ ∃ y : Ext w5, w' = y.val) := Lib.hid (fun x => (diffTag tg i1 i2 j1 j2 x.val).mono fun e w' h => ⟨by rw [h.1, h8.2], ⟨w', x.beyond.trans (h.2.mono x.beyond.size)⟩, rfl⟩)
          have e3 : ((tg : Int) != 101) = true := by simp; omega
          have e4 : decide (tg = 101) = false := by simp [ht]
          have e5 : (tg == 101) = false := by simp [ht]
          have e6 : decide ((tg : Int) = 101) = false := by simp; omega
          have HT := Lib.hid ht
          clear ht h8
          go_upto_region 8 with fail
          refine wp_region_ext (Below.refl _ w5) (by kernel_rfl) (by kernel_rfl) ?_
          repeat (go_big_quiet_step (exact HC.out _))
          refine wpQuiet_nil ?_
          rintro w6 ⟨⟨_, hb6⟩, rfl⟩
          have hR6 := (hb6.block R hRlt).trans hR5
          have z2 : w6.cell? ⟨R, 2, none⟩ = some (.int .i64 (i2 : Int)) := by rw [Lib.cell_of_heap hR6]; rfl
          have z4 : w6.cell? ⟨R, 4, none⟩ = some (.int .i64 (j2 : Int)) := by rw [Lib.cell_of_heap hR6]; rfl
          have hb7 := hb5.trans (hb6.mono hb5.size)
          clear y0 y1 y2 y3 y4
          go_upto_region 10 with fail
          go_big_quiet (fail)
          have hb8 : Below w.heap.size w (w6.drewN nq) := ⟨hb7.os, hb7.tape, hb7.output, hb7.size, hb7.block⟩
          go_wp2_with fail
          go_roundw
          case rel => exact ⟨i2, j2, k + 1, some (tg == 101), rfl, rfl, by go_num, by omega, HN, HP2, hb8⟩
          case measure => simp [intOf]; omega
    · have hkl : k = ts.length := by omega
      have hlt' : ¬ (k : Int) < (ts.length : Int) := by omega
      have hd := HE.out
      rw [hkl, List.drop_length] at hd
      obtain ⟨rfl, rfl⟩ := hd
      clear hkl HE HP
      go_wp2_with fail
      go_ret
      exact ⟨rfl, hbr⟩
end Go.Proofs.Ytkbppaddghfgpaa
