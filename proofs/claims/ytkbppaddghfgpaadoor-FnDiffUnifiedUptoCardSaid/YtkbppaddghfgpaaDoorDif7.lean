/- findLongestMatch computes flm. -/
import Derived.Test.YtkbppaddghfgpaaDoorDif6
import Derived.BigQuiet
import Derived.Deep.RegionHeld3
import Derived.Deep.CutBlock
import Derived.Deep.DeepCutAuto
import Derived.WalkMore
import Derived.Laws.Rows
set_option linter.unusedVariables false
set_option linter.unusedSimpArgs false
namespace Go.Proofs.YtkbppaddghfgpaaDoor
open Go.RowKit Go.Maps

set_option maxHeartbeats 3200000 in
set_option maxRecDepth 100000 in
theorem flm_any {M : Nat} {a b : List ByteArray} {L : ByteArray → List Nat} (alo ahi blo bhi : Nat) (w : World) (hm : Mem w M a b L) (hL : ∀ v j, j ∈ L v → b[j]? = some v) (haa : alo ≤ ahi) (hah : ahi ≤ a.length) (hbb : blo ≤ bhi) (hbh : bhi ≤ b.length)
    (hla : a.length ≤ 2147483647) (hlb : b.length ≤ 2147483647) (hsa : ∀ s ∈ a, s.size ≤ maxLen) (hsb : ∀ s ∈ b, s.size ≤ maxLen) :
    Calls Tryd.prog 34 #[.pointer (some ⟨M, 0, none⟩), .int .i64 (alo : Int), .int .i64 (ahi : Int), .int .i64 (blo : Int), .int .i64 (bhi : Int)] w
      fun e w' => e = .returned (.agg #[.int .i64 ((flm a b L alo ahi blo bhi).1 : Int), .int .i64 ((flm a b L alo ahi blo bhi).2.1 : Int), .int .i64 ((flm a b L alo ahi blo bhi).2.2 : Int)]) ∧ Below w.heap.size w w' := by
  have HL := Lib.hid hL
  have HSA := Lib.hid hsa
  have HSB := Lib.hid hsb
  have HM := Lib.hid (fun w' (h : Below w.heap.size w w') => hm.below h)
  have hbnd : Hid (∀ i, Sound a b alo blo bhi i (outRun a L alo blo bhi i)) := Lib.hid (outRun_sound hL alo blo bhi)
  clear hm hL hsa hsb
  have hmm := @run_makeMap Tryd.prog
  go_enter Tryd.func34, Tryd.ntmps34
  go_upto_block 0 with fail
  have hb0 : Below w.heap.size w (w.alloc (.cells #[.int .i64 0, .int .i64 0, .int .i64 0] 73)) := (Below.refl _ w).alloc (Nat.le_refl _) _
  have hR0 : (w.alloc (.cells #[.int .i64 0, .int .i64 0, .int .i64 0] 73)).heap[w.heap.size]? = some (.cells #[.int .i64 0, .int .i64 0, .int .i64 0] 73) := heap_alloc_new w _
  have hs0 : (w.alloc (.cells #[.int .i64 0, .int .i64 0, .int .i64 0] 73)).heap.size = w.heap.size + 1 := by simp
  generalize w.alloc (.cells #[.int .i64 0, .int .i64 0, .int .i64 0] 73) = w0 at *
  have hm0 := HM.out w0 hb0
  obtain ⟨av, bv, jv, ju, bl, pv, op, hM0, hlk, hju, hav, hbv⟩ := hm0
  have HLK := Lib.hid hlk
  have hML := hM0.lt
  obtain ⟨ap, acap, ab, aoff, rfl, hac, hamx, hap, hacell⟩ := hav
  obtain ⟨bp, bcap, bb, boff, rfl, hbc, hbmx, hbp, hbcell⟩ := hbv
  have k0 : w0.cell? ⟨M, 0, none⟩ = some (.slice ap a.length acap) := by rw [Lib.cell_of_heap hM0]; rfl
  have k1 : w0.cell? ⟨M, 1, none⟩ = some (.slice bp b.length bcap) := by rw [Lib.cell_of_heap hM0]; rfl
  have k2 : w0.cell? ⟨M, 2, none⟩ = some jv := by rw [Lib.cell_of_heap hM0]; rfl
  have HAC := Lib.hid hacell
  have HBC := Lib.hid hbcell
  have HAP := Lib.hid hap
  have HBP := Lib.hid hbp
  clear hlk hacell hbcell hap hbp
  unfold maxLen at hamx hbmx
  go_cut [11, 12, 13] (fun v11 v12 v13 wc => v11 = .int .i64 ((outRun a L alo blo bhi (ahi - alo)).i : Int) ∧ v12 = .int .i64 ((outRun a L alo blo bhi (ahi - alo)).j : Int) ∧ v13 = .int .i64 ((outRun a L alo blo bhi (ahi - alo)).n : Int) ∧ Below w0.heap.size w0 wc)
  case first =>
    as_aux_lemma =>
      go_wp2_with fail
      go_loopw [11, 12, 13, 14, 15] (fun v11 v12 v13 v14 v15 wr => ∃ k n B : Nat, alo + k ≤ ahi ∧ v11 = .int .i64 ((outRun a L alo blo bhi k).i : Int) ∧ v12 = .int .i64 ((outRun a L alo blo bhi k).j : Int) ∧ v13 = .int .i64 ((outRun a L alo blo bhi k).n : Int) ∧
          v14 = .map (some B) ∧ v15 = .int .i64 ((alo + k : Nat) : Int) ∧ JL wr B n (outRun a L alo blo bhi k).m ∧ w0.heap.size ≤ B ∧ Below w0.heap.size w0 wr)
        (fun _ _ _ _ i _ => ahi - (intOf i).toNat)
      case atStart => exact ⟨0, 0, w0.heap.size, by omega, rfl, rfl, rfl, by rw [hs0], by simp, JL.made w0, Nat.le_refl _, (Below.refl _ w0).alloc (Nat.le_refl _) _⟩
      case round =>
        obtain ⟨k, n, B, hk, rfl, rfl, rfl, rfl, rfl, hJ, hB, hbr⟩ := hrel
        by_cases hlt : alo + k < ahi
        · obtain rfl : ap = some ⟨ab, aoff, none⟩ := by
            rcases HAP.out with h | h
            · rw [h] at hah; simp at hah; omega
            · exact h
          have hk2 : alo + k < a.length := by omega
          have hrow : Hid (outRun a L alo blo bhi (k + 1) = inRun (alo + k) blo bhi (outRun a L alo blo bhi k).m (L a[alo + k]) ⟨(outRun a L alo blo bhi k).i, (outRun a L alo blo bhi k).j, (outRun a L alo blo bhi k).n, fun _ => 0⟩) := Lib.hid (by
            show outStep a L blo bhi _ _ = _
            unfold outStep rowOf
            rw [List.getElem?_eq_getElem hk2])
          have hjs : Hid (∀ j ∈ L a[alo + k], j < b.length) := Lib.hid (fun j hj => (List.getElem?_eq_some_iff.1 (HL.out _ j hj)).1)
          have hold : Hid (∀ j, (outRun a L alo blo bhi k).m j ≤ j ∧ (outRun a L alo blo bhi k).m j ≤ k) := Lib.hid (fun j => old_le (hbnd.out k) j)
          have cs := HAC.out (alo + k) a[alo + k] (List.getElem?_eq_getElem hk2)
          have cs' : wr.cell? ⟨ab, aoff + (alo + k), none⟩ = some (.string a[alo + k]) := (hbr.cell (p := ⟨ab, aoff + (alo + k), none⟩) (World.block_lt_of_cell? w0 _ cs)).trans cs
          obtain ⟨jsv, hjv, hlook⟩ := HLK.out a[alo + k] (HSA.out _ (List.getElem_mem hk2))
          have c0 : wr.cell? ⟨M, 0, none⟩ = some (.slice (some ⟨ab, aoff, none⟩) a.length acap) := (hbr.cell (p := ⟨M, 0, none⟩) hML).trans k0
          have c2 : wr.cell? ⟨M, 2, none⟩ = some jv := (hbr.cell (p := ⟨M, 2, none⟩) hML).trans k2
          clear cs
          generalize a[alo + k] = s at *
          generalize L s = js at *
          generalize outRun a L alo blo bhi k = S0 at *
          have hsz := hbr.size
          have hb1 : Below w0.heap.size w0 (wr.alloc (.map #[] 0)) := hbr.alloc hsz _
          have hJ1 := JL.made wr
          have hJ0 : JL (wr.alloc (.map #[] 0)) B n S0.m := hJ.grown (World.grownBy_alloc wr _ none) (by simp)
          have hl1 : ∀ n, (Instr.lookup 64 jv (.string s) false).run Tryd.prog ((wr.alloc (.map #[] 0)).drewN n) = .ok jsv ((wr.alloc (.map #[] 0)).drewN n) := fun n => hlook _ ⟨hb1.os, hb1.tape, hb1.output, hb1.size, hb1.block⟩
          obtain ⟨jp, jcap, jb, joff, rfl, hjc, hjmx, hjp, hjcell⟩ := hjv
          unfold maxLen at hjmx
          have HJC := Lib.hid hjcell
          have HJP := Lib.hid hjp
          clear hlook hjcell hjp
          have hix : ((alo + k : Nat) : Int) < (a.length : Int) := by omega
          have hsB : wr.heap.size < (wr.alloc (.map #[] 0)).heap.size := by simp
          have hnB : wr.heap.size ≠ B := by have := hJ.lt; omega
          go_upto_region 7 with fail
          have d0 : (wr.alloc (.map #[] 0)).cell? ⟨M, 0, none⟩ = some (.slice (some ⟨ab, aoff, none⟩) a.length acap) := (hb1.cell (p := ⟨M, 0, none⟩) hML).trans k0
          have d2 : (wr.alloc (.map #[] 0)).cell? ⟨M, 2, none⟩ = some jv := (hb1.cell (p := ⟨M, 2, none⟩) hML).trans k2
          have ds : (wr.alloc (.map #[] 0)).cell? ⟨ab, aoff + (alo + k), none⟩ = some (.string s) := (World.cell?_alloc_lt _ _ _ (World.block_lt_of_cell? wr _ cs')).trans cs'
          generalize hB2 : wr.heap.size = B2 at *
          generalize wr.alloc (.map #[] 0) = w2 at *
          clear c0 c2 cs' hJ hbr
          go_quiet (fail)
          have hbq : Below w0.heap.size w0 (w2.drewN nq) := ⟨hb1.os, hb1.tape, hb1.output, hb1.size, hb1.block⟩
          have hJq0 : JL (w2.drewN nq) B n S0.m := hJ0
          have hJq1 : JL (w2.drewN nq) B2 0 (fun _ => 0) := hJ1
          have hsq : B2 < (w2.drewN nq).heap.size := hsB
          clear hl1 d0 d2 ds hb1 hJ0 hJ1 hsB
          generalize w2.drewN nq = w3 at *
          go_wp2_with fail
          go_loopw [11, 12, 13, 43] (fun v11 v12 v13 v43 wi => ∃ t : Nat, t ≤ js.length ∧ (∀ j ∈ js.take t, j < bhi) ∧ v11 = .int .i64 ((inFold (alo + k) blo S0.m (js.take t) ⟨S0.i, S0.j, S0.n, fun _ => 0⟩).i : Int) ∧
              v12 = .int .i64 ((inFold (alo + k) blo S0.m (js.take t) ⟨S0.i, S0.j, S0.n, fun _ => 0⟩).j : Int) ∧ v13 = .int .i64 ((inFold (alo + k) blo S0.m (js.take t) ⟨S0.i, S0.j, S0.n, fun _ => 0⟩).n : Int) ∧ v43 = .int .i64 (t : Int) ∧
              JL wi B n S0.m ∧ JL wi B2 t (inFold (alo + k) blo S0.m (js.take t) ⟨S0.i, S0.j, S0.n, fun _ => 0⟩).m ∧ Below w0.heap.size w0 wi)
            (fun _ _ _ i _ => js.length - (intOf i).toNat)
          case atStart => exact ⟨0, Nat.zero_le _, by simp, rfl, rfl, rfl, rfl, hJq0, hJq1, hbq⟩
          case round =>
            obtain ⟨t, ht, htk, rfl, rfl, rfl, rfl, hI0, hI1, hbi⟩ := hrel
            by_cases htl : t < js.length
            · have hjb := hjs.out js[t] (List.getElem_mem htl)
              have hjm := hold.out js[t]
              have HT : Hid (js.take (t + 1) = js.take t ++ [js[t]]) := Lib.hid (List.take_succ_eq_append_getElem htl)
              have HX : Hid (js[t]? = some js[t]) := Lib.hid (List.getElem?_eq_getElem htl)
              have cj := HJC.out t js[t] (List.getElem?_eq_getElem htl)
              have cj' : wr.cell? ⟨jb, joff + t, none⟩ = some (.int .i64 (js[t] : Int)) := (hbi.cell (p := ⟨jb, joff + t, none⟩) (World.block_lt_of_cell? w0 _ cj)).trans cj
              have htl2 : (t : Int) < (js.length : Int) := by omega
              obtain rfl : jp = some ⟨jb, joff, none⟩ := by
                rcases HJP.out with h | h
                · rw [h] at htl; simp at htl
                · exact h
              clear cj
              generalize js[t] = j at *
              have HS : Hid (inFold (alo + k) blo S0.m (js.take (t + 1)) ⟨S0.i, S0.j, S0.n, fun _ => 0⟩ = inStep (alo + k) blo S0.m (inFold (alo + k) blo S0.m (js.take t) ⟨S0.i, S0.j, S0.n, fun _ => 0⟩) j) := Lib.hid (by rw [HT.out, inFold_snoc])
              have htk1 : j < bhi → ∀ j' ∈ js.take (t + 1), j' < bhi := by
                intro hj j' hj'
                rw [HT.out] at hj'
                rcases List.mem_append.1 hj' with h | h
                · exact htk j' h
                · simp at h; omega
              generalize hSt : inFold (alo + k) blo S0.m (js.take t) ⟨S0.i, S0.j, S0.n, fun _ => 0⟩ = St at *
              have HSt := Lib.hid hSt
              clear hSt
              have hjl : js.length ≤ 2147483648 ∨ True := .inr trivial
              by_cases h1 : j < blo
              · have h1' : (j : Int) < (blo : Int) := by omega
                have HE := inStep_skip (x := alo + k) (old := S0.m) (s := St) h1
                go_wp2_with fail
                go_roundw
                case rel => exact ⟨t + 1, by omega, htk1 (by omega), by rw [HS.out, HE], by rw [HS.out, HE], by rw [HS.out, HE], by go_num, hI0, by rw [HS.out, HE]; exact hI1.mono (by omega), hbi⟩
                case measure => simp [intOf, wrap64]; omega
              · have h1' : ¬ (j : Int) < (blo : Int) := by omega
                by_cases h2 : bhi ≤ j
                · have h2' : (bhi : Int) ≤ (j : Int) := by omega
                  have HK : outRun a L alo blo bhi (k + 1) = St := by
                    rw [hrow.out]
                    unfold inRun
                    rw [take_stop htk (.inr ⟨j, HX.out, h2⟩)]
                    exact HSt.out
                  go_wp2_with fail
                  go_roundw
                  case rel => exact ⟨k + 1, t, B2, by omega, by rw [HK], by rw [HK], by rw [HK], rfl, by go_num, by rw [HK]; exact hI1, by omega, hbi⟩
                  case measure => simp [intOf]; omega
                · have h2' : ¬ (bhi : Int) ≤ (j : Int) := by omega
                  have hlj := hI0.look j (by omega)
                  obtain ⟨w4, hput, hP1, hg4⟩ := hI1.put j (S0.m j + 1) (by omega) (by omega) (by unfold maxLen; omega)
                  have hP0 := hI0.grown hg4 (by simp; omega)
                  have hb4 := hbi.grown hg4 hbi.size (by intro q hq; cases hq; omega)
                  have hput' : (Instr.mapUpdate 83 (.map (some B2)) (.int .i64 (j : Int)) (.int .i64 ((S0.m j : Int) + 1))).run Tryd.prog wr = .ok () w4 := hput
                  clear hput
                  by_cases h3 : St.n < S0.m j + 1
                  · have h3' : (St.n : Int) < (S0.m j : Int) + 1 := by omega
                    have HE := inStep_more (x := alo + k) h1 h3
                    have HE' := Lib.hid (HS.out.trans HE)
                    clear HE
                    generalize S0.m j = oj at *
                    go_wp2_with fail
                    go_roundw
                    case rel => exact ⟨t + 1, by omega, htk1 (by omega), by rw [HE'.out]; go_num, by rw [HE'.out]; go_num, by rw [HE'.out]; go_num, by go_num, hP0, by rw [HE'.out]; exact hP1, hb4⟩
                    case measure => simp [intOf, wrap64]; omega
                  · have h3' : ¬ (St.n : Int) < (S0.m j : Int) + 1 := by omega
                    have HE := inStep_less (x := alo + k) h1 h3
                    have HE' := Lib.hid (HS.out.trans HE)
                    clear HE
                    generalize S0.m j = oj at *
                    go_wp2_with fail
                    go_roundw
                    case rel => exact ⟨t + 1, by omega, htk1 (by omega), by rw [HE'.out], by rw [HE'.out], by rw [HE'.out], by go_num, hP0, by rw [HE'.out]; exact hP1, hb4⟩
                    case measure => simp [intOf, wrap64]; omega
            · have HK : outRun a L alo blo bhi (k + 1) = inFold (alo + k) blo S0.m (js.take t) ⟨S0.i, S0.j, S0.n, fun _ => 0⟩ := by
                rw [hrow.out]
                unfold inRun
                rw [take_stop htk (.inl (by omega))]
              generalize inFold (alo + k) blo S0.m (js.take t) ⟨S0.i, S0.j, S0.n, fun _ => 0⟩ = St at *
              have HK' := Lib.hid HK
              clear HK
              have h0 : ¬ (t : Int) < (js.length : Int) := by omega
              go_wp2_with fail
              go_roundw
              case rel => exact ⟨k + 1, t, B2, by omega, by rw [HK'.out], by rw [HK'.out], by rw [HK'.out], rfl, by go_num, by rw [HK'.out]; exact hI1, by omega, hbi⟩
              case measure => simp [intOf]; omega
        · have hk2 : ahi - alo = k := by omega
          have h0 : ((alo + k : Nat) : Int) = (ahi : Int) := by omega
          go_wp2_with fail
          go_meet
          case rel => rw [hk2]; exact ⟨rfl, rfl, rfl, hbr⟩
  case rest =>
    obtain ⟨rfl, rfl, rfl, hbc⟩ := hcut
    have hblk : Blk a b alo ahi blo bhi (outRun a L alo blo bhi (ahi - alo)).i (outRun a L alo blo bhi (ahi - alo)).j (outRun a L alo blo bhi (ahi - alo)).n := by
      have hs := hbnd.out (ahi - alo)
      rcases Nat.eq_zero_or_pos (outRun a L alo blo bhi (ahi - alo)).n with h | h
      · obtain ⟨e1, e2⟩ := hs.z h
        rw [h, e1, e2]
        exact ⟨by omega, by omega, by omega, by omega, fun t ht => by omega⟩
      · exact (hs.p h).more (by omega)
    have HF : Hid (flm a b L alo ahi blo bhi = ((backF a b alo blo (outRun a L alo blo bhi (ahi - alo)).i (outRun a L alo blo bhi (ahi - alo)).i (outRun a L alo blo bhi (ahi - alo)).j (outRun a L alo blo bhi (ahi - alo)).n).1,
      (backF a b alo blo (outRun a L alo blo bhi (ahi - alo)).i (outRun a L alo blo bhi (ahi - alo)).i (outRun a L alo blo bhi (ahi - alo)).j (outRun a L alo blo bhi (ahi - alo)).n).2.1,
      foreF a b ahi bhi (backF a b alo blo (outRun a L alo blo bhi (ahi - alo)).i (outRun a L alo blo bhi (ahi - alo)).i (outRun a L alo blo bhi (ahi - alo)).j (outRun a L alo blo bhi (ahi - alo)).n).1 (backF a b alo blo (outRun a L alo blo bhi (ahi - alo)).i (outRun a L alo blo bhi (ahi - alo)).i (outRun a L alo blo bhi (ahi - alo)).j (outRun a L alo blo bhi (ahi - alo)).n).2.1 ahi (backF a b alo blo (outRun a L alo blo bhi (ahi - alo)).i (outRun a L alo blo bhi (ahi - alo)).i (outRun a L alo blo bhi (ahi - alo)).j (outRun a L alo blo bhi (ahi - alo)).n).2.2)) := Lib.hid rfl
    clear hbnd HLK k2
    generalize (outRun a L alo blo bhi (ahi - alo)).i = i0 at *
    generalize (outRun a L alo blo bhi (ahi - alo)).j = j0 at *
    generalize (outRun a L alo blo bhi (ahi - alo)).n = n0 at *
    generalize hBF : backF a b alo blo i0 i0 j0 n0 = BF at *
    have HBF := Lib.hid hBF
    clear hBF
    go_upto_block 4 with fail
    go_cut [11, 12, 13] (fun v11 v12 v13 wd => v11 = .int .i64 (BF.1 : Int) ∧ v12 = .int .i64 (BF.2.1 : Int) ∧ v13 = .int .i64 (BF.2.2 : Int) ∧ Below w0.heap.size w0 wd)
    case first =>
      as_aux_lemma =>
        go_wp2_with fail
        go_loopw [11, 12, 13] (fun v11 v12 v13 wr => ∃ f i j n : Nat, v11 = .int .i64 (i : Int) ∧ v12 = .int .i64 (j : Int) ∧ v13 = .int .i64 (n : Int) ∧ i ≤ f ∧ Hid (backF a b alo blo f i j n = BF) ∧ Blk a b alo ahi blo bhi i j n ∧ Below w0.heap.size w0 wr)
          (fun i _ _ _ => (intOf i).toNat)
        case atStart => exact ⟨i0, i0, j0, n0, rfl, rfl, rfl, Nat.le_refl _, HBF, hblk, hbc⟩
        case round =>
          obtain ⟨f, i, j, n, rfl, rfl, rfl, hif, HB, hbk, hbr⟩ := hrel
          have hb5 : i + n ≤ ahi ∧ j + n ≤ bhi := ⟨hbk.2.1, hbk.2.2.2.1⟩
          by_cases h1 : alo < i
          · have h1' : (alo : Int) < (i : Int) := by omega
            by_cases h2 : blo < j
            · have h2' : (blo : Int) < (j : Int) := by omega
              have hia : i - 1 < a.length := by omega
              have hjb : j - 1 < b.length := by omega
              obtain rfl : ap = some ⟨ab, aoff, none⟩ := by
                rcases HAP.out with h | h
                · rw [h] at hia; simp at hia
                · exact h
              obtain rfl : bp = some ⟨bb, boff, none⟩ := by
                rcases HBP.out with h | h
                · rw [h] at hjb; simp at hjb
                · exact h
              have ca := HAC.out (i - 1) a[i - 1] (List.getElem?_eq_getElem hia)
              have cb := HBC.out (j - 1) b[j - 1] (List.getElem?_eq_getElem hjb)
              have hsz := HSB.out b[j - 1] (List.getElem_mem hjb)
              have HEQ : Hid (a[i - 1]? = some a[i - 1] ∧ b[j - 1]? = some b[j - 1]) := Lib.hid ⟨List.getElem?_eq_getElem hia, List.getElem?_eq_getElem hjb⟩
              generalize a[i - 1] = r at *
              generalize b[j - 1] = s at *
              have hw1 : IntKind.i64.wrap ((i : Int) - 1) = ((i - 1 : Nat) : Int) := (IntWalk.i64_in _ ⟨by omega, by omega⟩).trans (by omega)
              have hw2 : IntKind.i64.wrap ((j : Int) - 1) = ((j - 1 : Nat) : Int) := (IntWalk.i64_in _ ⟨by omega, by omega⟩).trans (by omega)
              have hix2 : ((i - 1 : Nat) : Int) < (a.length : Int) := by omega
              have hjx2 : ((j - 1 : Nat) : Int) < (b.length : Int) := by omega
              haveI : Nonempty (Ext w0) := ⟨⟨w0, Below.refl _ _⟩⟩
              have s0 : ∀ x : Ext w0, x.val.cell? ⟨M, 0, none⟩ = some (.slice (some ⟨ab, aoff, none⟩) a.length acap) := fun x => (x.beyond.cell (p := ⟨M, 0, none⟩) hML).trans k0
              have s1 : ∀ x : Ext w0, x.val.cell? ⟨M, 1, none⟩ = some (.slice (some ⟨bb, boff, none⟩) b.length bcap) := fun x => (x.beyond.cell (p := ⟨M, 1, none⟩) hML).trans k1
              have s2 : ∀ x : Ext w0, x.val.cell? ⟨ab, aoff + (i - 1), none⟩ = some (.string r) := fun x => (x.beyond.cell (p := ⟨ab, aoff + (i - 1), none⟩) (World.block_lt_of_cell? w0 _ ca)).trans ca
              have s3 : ∀ x : Ext w0, x.val.cell? ⟨bb, boff + (j - 1), none⟩ = some (.string s) := fun x => (x.beyond.cell (p := ⟨bb, boff + (j - 1), none⟩) (World.block_lt_of_cell? w0 _ cb)).trans cb
              have hcall : ∀ x : Ext w0, Calls Tryd.prog 38 #[.pointer (some ⟨M, 0, none⟩), .string s] x.val fun e w' => e = .returned (.bool false) ∧ ∃ y : Ext w0, w' = y.val := fun x =>
                (notJunk s x.val (hM0.below x.beyond hML) ((x.beyond.block ju (Array.getElem?_eq_some_iff.1 hju).1).trans hju) hsz).mono fun e w' h => ⟨h.1, ⟨w', x.beyond.trans (h.2.mono x.beyond.size)⟩, rfl⟩
              have HC := Lib.hid hcall
              clear hcall ca cb
              by_cases hrs : r = s
              · subst hrs
                have HE : Hid (backF a b alo blo (f - 1) (i - 1) (j - 1) (n + 1) = BF) := Lib.hid ((backF_yes h1 h2 (by rw [HEQ.out.1, HEQ.out.2]) hif).symm.trans HB.out)
                have hbk' := hbk.back h1 h2 (by rw [HEQ.out.1, HEQ.out.2])
                go_upto_region 18 with fail
                refine wp_region_ext hbr (by kernel_rfl) (by kernel_rfl) ?_
                repeat (go_big_quiet_step (exact HC.out _))
                refine wpQuiet_nil ?_
                rintro w3 ⟨⟨_, hb3⟩, rfl⟩
                go_wp2_with fail
                go_roundw
                case rel => exact ⟨f - 1, i - 1, j - 1, n + 1, rfl, rfl, by go_num, by omega, HE, hbk', hb3⟩
                case measure => simp [intOf]; omega
              · have hq := ne_bytes hrs
                have HE : Hid (BF = (i, j, n)) := Lib.hid (HB.out.symm.trans (backF_no (fun h => hrs (by have h3 := h.2.2; rw [HEQ.out.1, HEQ.out.2] at h3; exact Option.some.inj h3))))
                go_upto_region 18 with fail
                refine wp_region_ext hbr (by kernel_rfl) (by kernel_rfl) ?_
                repeat (go_big_quiet_step (exact HC.out _))
                refine wpQuiet_nil ?_
                rintro w3 ⟨⟨_, hb3⟩, rfl⟩
                go_wp2_with fail
                go_meet
                case rel => rw [HE.out]; exact ⟨rfl, rfl, rfl, hb3⟩
            · have h2' : decide ((blo : Int) < (j : Int)) = false := by simp; omega
              have HE : Hid (BF = (i, j, n)) := Lib.hid (HB.out.symm.trans (backF_no (fun h => h2 h.2.1)))
              go_upto_region 18 with fail
              go_quiet (fail)
              have hb3 : Below w0.heap.size w0 (wr.drewN nq) := ⟨hbr.os, hbr.tape, hbr.output, hbr.size, hbr.block⟩
              go_wp2_with fail
              go_meet
              case rel => rw [HE.out]; exact ⟨rfl, rfl, rfl, hb3⟩
          · have h1' : decide ((alo : Int) < (i : Int)) = false := by simp; omega
            have HE : Hid (BF = (i, j, n)) := Lib.hid (HB.out.symm.trans (backF_no (fun h => h1 h.1)))
            go_upto_region 18 with fail
            go_quiet (fail)
            have hb3 : Below w0.heap.size w0 (wr.drewN nq) := ⟨hbr.os, hbr.tape, hbr.output, hbr.size, hbr.block⟩
            go_wp2_with fail
            go_meet
            case rel => rw [HE.out]; exact ⟨rfl, rfl, rfl, hb3⟩
    case rest =>
      obtain ⟨rfl, rfl, rfl, hbd⟩ := hcut
      have hblk2 : Blk a b alo ahi blo bhi BF.1 BF.2.1 BF.2.2 := by rw [← HBF.out]; exact back_blk _ _ _ _ hblk
      clear hbc hblk HBF
      obtain ⟨i, j, n2⟩ := BF
      simp only at HF hblk2
      generalize hFN : foreF a b ahi bhi i j ahi n2 = FN at *
      have HFN := Lib.hid hFN
      clear hFN
      go_upto_block 6 with fail
      go_cut [13] (fun v13 we => v13 = .int .i64 (FN : Int) ∧ Below w0.heap.size w0 we)
      case first =>
        as_aux_lemma =>
          go_wp2_with fail
          go_loopw [13] (fun v13 wr => ∃ f n : Nat, v13 = .int .i64 (n : Int) ∧ ahi ≤ f + n ∧ Hid (foreF a b ahi bhi i j f n = FN) ∧ Blk a b alo ahi blo bhi i j n ∧ Below w0.heap.size w0 wr)
            (fun v13 _ => ahi - (intOf v13).toNat)
          case atStart => exact ⟨ahi, n2, rfl, by omega, HFN, hblk2, hbd⟩
          case round =>
            obtain ⟨f, n, rfl, hif, HB, hbk, hbr⟩ := hrel
            have hb5 : i + n ≤ ahi ∧ j + n ≤ bhi := ⟨hbk.2.1, hbk.2.2.2.1⟩
            have hw1 : IntKind.i64.wrap ((i : Int) + (n : Int)) = (i : Int) + (n : Int) := IntWalk.i64_in _ ⟨by omega, by omega⟩
            have hw2 : IntKind.i64.wrap ((j : Int) + (n : Int)) = (j : Int) + (n : Int) := IntWalk.i64_in _ ⟨by omega, by omega⟩
            by_cases h1 : i + n < ahi
            · have h1' : (i : Int) + (n : Int) < (ahi : Int) := by omega
              by_cases h2 : j + n < bhi
              · have h2' : (j : Int) + (n : Int) < (bhi : Int) := by omega
                have hia : i + n < a.length := by omega
                have hjb : j + n < b.length := by omega
                obtain rfl : ap = some ⟨ab, aoff, none⟩ := by
                  rcases HAP.out with h | h
                  · rw [h] at hia; simp at hia
                  · exact h
                obtain rfl : bp = some ⟨bb, boff, none⟩ := by
                  rcases HBP.out with h | h
                  · rw [h] at hjb; simp at hjb
                  · exact h
                have ca := HAC.out (i + n) a[i + n] (List.getElem?_eq_getElem hia)
                have cb := HBC.out (j + n) b[j + n] (List.getElem?_eq_getElem hjb)
                have hsz := HSB.out b[j + n] (List.getElem_mem hjb)
                have HEQ : Hid (a[i + n]? = some a[i + n] ∧ b[j + n]? = some b[j + n]) := Lib.hid ⟨List.getElem?_eq_getElem hia, List.getElem?_eq_getElem hjb⟩
                generalize a[i + n] = r at *
                generalize b[j + n] = s at *
                have hix2 : (i : Int) + (n : Int) < (a.length : Int) := by omega
                have hjx2 : (j : Int) + (n : Int) < (b.length : Int) := by omega
                have hix0 : 0 ≤ (i : Int) + (n : Int) := by omega
                have hjx0 : 0 ≤ (j : Int) + (n : Int) := by omega
                haveI : Nonempty (Ext w0) := ⟨⟨w0, Below.refl _ _⟩⟩
                have s0 : ∀ x : Ext w0, x.val.cell? ⟨M, 0, none⟩ = some (.slice (some ⟨ab, aoff, none⟩) a.length acap) := fun x => (x.beyond.cell (p := ⟨M, 0, none⟩) hML).trans k0
                have s1 : ∀ x : Ext w0, x.val.cell? ⟨M, 1, none⟩ = some (.slice (some ⟨bb, boff, none⟩) b.length bcap) := fun x => (x.beyond.cell (p := ⟨M, 1, none⟩) hML).trans k1
                have s2 : ∀ x : Ext w0, x.val.cell? ⟨ab, aoff + (i + n), none⟩ = some (.string r) := fun x => (x.beyond.cell (p := ⟨ab, aoff + (i + n), none⟩) (World.block_lt_of_cell? w0 _ ca)).trans ca
                have s3 : ∀ x : Ext w0, x.val.cell? ⟨bb, boff + (j + n), none⟩ = some (.string s) := fun x => (x.beyond.cell (p := ⟨bb, boff + (j + n), none⟩) (World.block_lt_of_cell? w0 _ cb)).trans cb
                have hcall : ∀ x : Ext w0, Calls Tryd.prog 38 #[.pointer (some ⟨M, 0, none⟩), .string s] x.val fun e w' => e = .returned (.bool false) ∧ ∃ y : Ext w0, w' = y.val := fun x =>
                  (notJunk s x.val (hM0.below x.beyond hML) ((x.beyond.block ju (Array.getElem?_eq_some_iff.1 hju).1).trans hju) hsz).mono fun e w' h => ⟨h.1, ⟨w', x.beyond.trans (h.2.mono x.beyond.size)⟩, rfl⟩
                have HC := Lib.hid hcall
                clear hcall ca cb
                by_cases hrs : r = s
                · subst hrs
                  have HE : Hid (foreF a b ahi bhi i j (f - 1) (n + 1) = FN) := Lib.hid ((foreF_yes h1 h2 (by rw [HEQ.out.1, HEQ.out.2]) hif).symm.trans HB.out)
                  have hbk' := hbk.fore h1 h2 (by rw [HEQ.out.1, HEQ.out.2])
                  go_upto_region 20 with fail
                  refine wp_region_ext hbr (by kernel_rfl) (by kernel_rfl) ?_
                  repeat (go_big_quiet_step (exact HC.out _))
                  refine wpQuiet_nil ?_
                  rintro w3 ⟨⟨_, hb3⟩, rfl⟩
                  go_wp2_with fail
                  go_roundw
                  case rel => exact ⟨f - 1, n + 1, by go_num, by omega, HE, hbk', hb3⟩
                  case measure => simp [intOf]; omega
                · have hq := ne_bytes hrs
                  have HE : Hid (FN = n) := Lib.hid (HB.out.symm.trans (foreF_no (fun h => hrs (by have h3 := h.2.2; rw [HEQ.out.1, HEQ.out.2] at h3; exact Option.some.inj h3))))
                  go_upto_region 20 with fail
                  refine wp_region_ext hbr (by kernel_rfl) (by kernel_rfl) ?_
                  repeat (go_big_quiet_step (exact HC.out _))
                  refine wpQuiet_nil ?_
                  rintro w3 ⟨⟨_, hb3⟩, rfl⟩
                  go_wp2_with fail
                  go_meet
                  case rel => rw [HE.out]; exact ⟨rfl, hb3⟩
              · have h2' : decide ((j : Int) + (n : Int) < (bhi : Int)) = false := by simp; omega
                have HE : Hid (FN = n) := Lib.hid (HB.out.symm.trans (foreF_no (fun h => h2 h.2.1)))
                go_upto_region 20 with fail
                go_quiet (fail)
                have hb3 : Below w0.heap.size w0 (wr.drewN nq) := ⟨hbr.os, hbr.tape, hbr.output, hbr.size, hbr.block⟩
                go_wp2_with fail
                go_meet
                case rel => rw [HE.out]; exact ⟨rfl, hb3⟩
            · have h1' : decide ((i : Int) + (n : Int) < (ahi : Int)) = false := by simp; omega
              have HE : Hid (FN = n) := Lib.hid (HB.out.symm.trans (foreF_no (fun h => h1 h.1)))
              go_upto_region 20 with fail
              go_quiet (fail)
              have hb3 : Below w0.heap.size w0 (wr.drewN nq) := ⟨hbr.os, hbr.tape, hbr.output, hbr.size, hbr.block⟩
              go_wp2_with fail
              go_meet
              case rel => rw [HE.out]; exact ⟨rfl, hb3⟩
      case rest =>
        obtain ⟨rfl, hbe⟩ := hcut
        have hblk3 : Blk a b alo ahi blo bhi i j FN := by rw [← HFN.out]; exact fore_blk _ _ hblk2
        clear hbd hblk2 HFN
        have hb5 : i + FN ≤ ahi ∧ j + FN ≤ bhi := ⟨hblk3.2.1, hblk3.2.2.2.1⟩
        generalize FN = n at *
        go_upto_block 8 with fail
        go_cut [11, 12, 13] (fun v11 v12 v13 we => v11 = .int .i64 (i : Int) ∧ v12 = .int .i64 (j : Int) ∧ v13 = .int .i64 (n : Int) ∧ Below w0.heap.size w0 we)
        case first =>
          as_aux_lemma =>
            go_wp2_with fail
            go_loopw [11, 12, 13] (fun v11 v12 v13 wr => v11 = .int .i64 (i : Int) ∧ v12 = .int .i64 (j : Int) ∧ v13 = .int .i64 (n : Int) ∧ Below w0.heap.size w0 wr) (fun _ _ _ _ => 0)
            case atStart => exact ⟨rfl, rfl, rfl, hbe⟩
            case round =>
              obtain ⟨rfl, rfl, rfl, hbr⟩ := hrel
              by_cases h1 : alo < i
              · have h1' : (alo : Int) < (i : Int) := by omega
                by_cases h2 : blo < j
                · have h2' : (blo : Int) < (j : Int) := by omega
                  have hia : i - 1 < a.length := by omega
                  have hjb : j - 1 < b.length := by omega
                  obtain rfl : ap = some ⟨ab, aoff, none⟩ := by
                    rcases HAP.out with h | h
                    · rw [h] at hia; simp at hia
                    · exact h
                  obtain rfl : bp = some ⟨bb, boff, none⟩ := by
                    rcases HBP.out with h | h
                    · rw [h] at hjb; simp at hjb
                    · exact h
                  have ca := HAC.out (i - 1) a[i - 1] (List.getElem?_eq_getElem hia)
                  have cb := HBC.out (j - 1) b[j - 1] (List.getElem?_eq_getElem hjb)
                  have hsz := HSB.out b[j - 1] (List.getElem_mem hjb)
                  have HEQ : Hid (a[i - 1]? = some a[i - 1] ∧ b[j - 1]? = some b[j - 1]) := Lib.hid ⟨List.getElem?_eq_getElem hia, List.getElem?_eq_getElem hjb⟩
                  generalize a[i - 1] = r at *
                  generalize b[j - 1] = s at *
                  have hw1 : IntKind.i64.wrap ((i : Int) - 1) = ((i - 1 : Nat) : Int) := (IntWalk.i64_in _ ⟨by omega, by omega⟩).trans (by omega)
                  have hw2 : IntKind.i64.wrap ((j : Int) - 1) = ((j - 1 : Nat) : Int) := (IntWalk.i64_in _ ⟨by omega, by omega⟩).trans (by omega)
                  have hix2 : ((i - 1 : Nat) : Int) < (a.length : Int) := by omega
                  have hjx2 : ((j - 1 : Nat) : Int) < (b.length : Int) := by omega
                  haveI : Nonempty (Ext w0) := ⟨⟨w0, Below.refl _ _⟩⟩
                  have s0 : ∀ x : Ext w0, x.val.cell? ⟨M, 0, none⟩ = some (.slice (some ⟨ab, aoff, none⟩) a.length acap) := fun x => (x.beyond.cell (p := ⟨M, 0, none⟩) hML).trans k0
                  have s1 : ∀ x : Ext w0, x.val.cell? ⟨M, 1, none⟩ = some (.slice (some ⟨bb, boff, none⟩) b.length bcap) := fun x => (x.beyond.cell (p := ⟨M, 1, none⟩) hML).trans k1
                  have s2 : ∀ x : Ext w0, x.val.cell? ⟨ab, aoff + (i - 1), none⟩ = some (.string r) := fun x => (x.beyond.cell (p := ⟨ab, aoff + (i - 1), none⟩) (World.block_lt_of_cell? w0 _ ca)).trans ca
                  have s3 : ∀ x : Ext w0, x.val.cell? ⟨bb, boff + (j - 1), none⟩ = some (.string s) := fun x => (x.beyond.cell (p := ⟨bb, boff + (j - 1), none⟩) (World.block_lt_of_cell? w0 _ cb)).trans cb
                  have hcall : ∀ x : Ext w0, Calls Tryd.prog 38 #[.pointer (some ⟨M, 0, none⟩), .string s] x.val fun e w' => e = .returned (.bool false) ∧ ∃ y : Ext w0, w' = y.val := fun x =>
                    (notJunk s x.val (hM0.below x.beyond hML) ((x.beyond.block ju (Array.getElem?_eq_some_iff.1 hju).1).trans hju) hsz).mono fun e w' h => ⟨h.1, ⟨w', x.beyond.trans (h.2.mono x.beyond.size)⟩, rfl⟩
                  have HC := Lib.hid hcall
                  clear hcall ca cb
                  go_upto_region 22 with fail
                  refine wp_region_ext hbr (by kernel_rfl) (by kernel_rfl) ?_
                  repeat (go_big_quiet_step (exact HC.out _))
                  refine wpQuiet_nil ?_
                  rintro w3 ⟨⟨_, hb3⟩, rfl⟩
                  go_wp2_with fail
                  go_meet
                  case rel => exact ⟨rfl, rfl, rfl, hb3⟩
                · have h2' : decide ((blo : Int) < (j : Int)) = false := by simp; omega
                  go_upto_region 22 with fail
                  go_quiet (fail)
                  have hb3 : Below w0.heap.size w0 (wr.drewN nq) := ⟨hbr.os, hbr.tape, hbr.output, hbr.size, hbr.block⟩
                  go_wp2_with fail
                  go_meet
                  case rel => exact ⟨rfl, rfl, rfl, hb3⟩
              · have h1' : decide ((alo : Int) < (i : Int)) = false := by simp; omega
                go_upto_region 22 with fail
                go_quiet (fail)
                have hb3 : Below w0.heap.size w0 (wr.drewN nq) := ⟨hbr.os, hbr.tape, hbr.output, hbr.size, hbr.block⟩
                go_wp2_with fail
                go_meet
                case rel => exact ⟨rfl, rfl, rfl, hb3⟩
        case rest =>
          obtain ⟨rfl, rfl, rfl, hbf⟩ := hcut
          clear hbe
          go_upto_block 10 with fail
          go_cut [13] (fun v13 we => v13 = .int .i64 (n : Int) ∧ Below w0.heap.size w0 we)
          case first =>
            as_aux_lemma =>
              go_wp2_with fail
              go_loopw [13] (fun v13 wr => v13 = .int .i64 (n : Int) ∧ Below w0.heap.size w0 wr) (fun _ _ => 0)
              case atStart => exact ⟨rfl, hbf⟩
              case round =>
                obtain ⟨rfl, hbr⟩ := hrel
                have hw1 : IntKind.i64.wrap ((i : Int) + (n : Int)) = (i : Int) + (n : Int) := IntWalk.i64_in _ ⟨by omega, by omega⟩
                have hw2 : IntKind.i64.wrap ((j : Int) + (n : Int)) = (j : Int) + (n : Int) := IntWalk.i64_in _ ⟨by omega, by omega⟩
                by_cases h1 : i + n < ahi
                · have h1' : (i : Int) + (n : Int) < (ahi : Int) := by omega
                  by_cases h2 : j + n < bhi
                  · have h2' : (j : Int) + (n : Int) < (bhi : Int) := by omega
                    have hia : i + n < a.length := by omega
                    have hjb : j + n < b.length := by omega
                    obtain rfl : ap = some ⟨ab, aoff, none⟩ := by
                      rcases HAP.out with h | h
                      · rw [h] at hia; simp at hia
                      · exact h
                    obtain rfl : bp = some ⟨bb, boff, none⟩ := by
                      rcases HBP.out with h | h
                      · rw [h] at hjb; simp at hjb
                      · exact h
                    have ca := HAC.out (i + n) a[i + n] (List.getElem?_eq_getElem hia)
                    have cb := HBC.out (j + n) b[j + n] (List.getElem?_eq_getElem hjb)
                    have hsz := HSB.out b[j + n] (List.getElem_mem hjb)
                    have HEQ : Hid (a[i + n]? = some a[i + n] ∧ b[j + n]? = some b[j + n]) := Lib.hid ⟨List.getElem?_eq_getElem hia, List.getElem?_eq_getElem hjb⟩
                    generalize a[i + n] = r at *
                    generalize b[j + n] = s at *
                    have hix2 : (i : Int) + (n : Int) < (a.length : Int) := by omega
                    have hjx2 : (j : Int) + (n : Int) < (b.length : Int) := by omega
                    have hix0 : 0 ≤ (i : Int) + (n : Int) := by omega
                    have hjx0 : 0 ≤ (j : Int) + (n : Int) := by omega
                    haveI : Nonempty (Ext w0) := ⟨⟨w0, Below.refl _ _⟩⟩
                    have s0 : ∀ x : Ext w0, x.val.cell? ⟨M, 0, none⟩ = some (.slice (some ⟨ab, aoff, none⟩) a.length acap) := fun x => (x.beyond.cell (p := ⟨M, 0, none⟩) hML).trans k0
                    have s1 : ∀ x : Ext w0, x.val.cell? ⟨M, 1, none⟩ = some (.slice (some ⟨bb, boff, none⟩) b.length bcap) := fun x => (x.beyond.cell (p := ⟨M, 1, none⟩) hML).trans k1
                    have s2 : ∀ x : Ext w0, x.val.cell? ⟨ab, aoff + (i + n), none⟩ = some (.string r) := fun x => (x.beyond.cell (p := ⟨ab, aoff + (i + n), none⟩) (World.block_lt_of_cell? w0 _ ca)).trans ca
                    have s3 : ∀ x : Ext w0, x.val.cell? ⟨bb, boff + (j + n), none⟩ = some (.string s) := fun x => (x.beyond.cell (p := ⟨bb, boff + (j + n), none⟩) (World.block_lt_of_cell? w0 _ cb)).trans cb
                    have hcall : ∀ x : Ext w0, Calls Tryd.prog 38 #[.pointer (some ⟨M, 0, none⟩), .string s] x.val fun e w' => e = .returned (.bool false) ∧ ∃ y : Ext w0, w' = y.val := fun x =>
                      (notJunk s x.val (hM0.below x.beyond hML) ((x.beyond.block ju (Array.getElem?_eq_some_iff.1 hju).1).trans hju) hsz).mono fun e w' h => ⟨h.1, ⟨w', x.beyond.trans (h.2.mono x.beyond.size)⟩, rfl⟩
                    have HC := Lib.hid hcall
                    clear hcall ca cb
                    go_upto_region 24 with fail
                    refine wp_region_ext hbr (by kernel_rfl) (by kernel_rfl) ?_
                    repeat (go_big_quiet_step (exact HC.out _))
                    refine wpQuiet_nil ?_
                    rintro w3 ⟨⟨_, hb3⟩, rfl⟩
                    go_wp2_with fail
                    go_meet
                    case rel => exact ⟨rfl, hb3⟩
                  · have h2' : decide ((j : Int) + (n : Int) < (bhi : Int)) = false := by simp; omega
                    go_upto_region 24 with fail
                    go_quiet (fail)
                    have hb3 : Below w0.heap.size w0 (wr.drewN nq) := ⟨hbr.os, hbr.tape, hbr.output, hbr.size, hbr.block⟩
                    go_wp2_with fail
                    go_meet
                    case rel => exact ⟨rfl, hb3⟩
                · have h1' : decide ((i : Int) + (n : Int) < (ahi : Int)) = false := by simp; omega
                  go_upto_region 24 with fail
                  go_quiet (fail)
                  have hb3 : Below w0.heap.size w0 (wr.drewN nq) := ⟨hbr.os, hbr.tape, hbr.output, hbr.size, hbr.block⟩
                  go_wp2_with fail
                  go_meet
                  case rel => exact ⟨rfl, hb3⟩
          case rest =>
            obtain ⟨rfl, hbg⟩ := hcut
            have hR : wc.heap[w.heap.size]? = some (.cells #[.int .i64 0, .int .i64 0, .int .i64 0] 73) := (hbg.block _ (by omega)).trans hR0
            have x0 : wc.cell? ⟨w.heap.size, 0, none⟩ = some (.int .i64 0) := by rw [Lib.cell_of_heap hR]; rfl
            have x1 : wc.cell? ⟨w.heap.size, 1, none⟩ = some (.int .i64 0) := by rw [Lib.cell_of_heap hR]; rfl
            have x2 : wc.cell? ⟨w.heap.size, 2, none⟩ = some (.int .i64 0) := by rw [Lib.cell_of_heap hR]; rfl
            have y0 : wc.frozen? ⟨w.heap.size, 0, none⟩ = false := by simp [World.frozen?, hR]
            have y1 : wc.frozen? ⟨w.heap.size, 1, none⟩ = false := by simp [World.frozen?, hR]
            have y2 : wc.frozen? ⟨w.heap.size, 2, none⟩ = false := by simp [World.frozen?, hR]
            clear hR0
            have HR := Lib.hid hR
            clear hR
            go_wp2_with fail
            have hR3 : (((wc.setCell ⟨w.heap.size, 0, none⟩ (.int .i64 (i : Int))).setCell ⟨w.heap.size, 1, none⟩ (.int .i64 (j : Int))).setCell ⟨w.heap.size, 2, none⟩ (.int .i64 (n : Int))).heap[w.heap.size]? = some (.cells #[.int .i64 (i : Int), .int .i64 (j : Int), .int .i64 (n : Int)] 73) :=
              Lib.heap_setCell_same (i := 2) (Lib.heap_setCell_same (i := 1) (Lib.heap_setCell_same (i := 0) HR.out _) _) _
            have hfin : Below w.heap.size w (((wc.setCell ⟨w.heap.size, 0, none⟩ (.int .i64 (i : Int))).setCell ⟨w.heap.size, 1, none⟩ (.int .i64 (j : Int))).setCell ⟨w.heap.size, 2, none⟩ (.int .i64 (n : Int))) :=
              (((hb0.trans (hbg.mono hb0.size)).setCell (p := ⟨w.heap.size, 0, none⟩) (Nat.le_refl _) _).setCell (p := ⟨w.heap.size, 1, none⟩) (Nat.le_refl _) _).setCell (p := ⟨w.heap.size, 2, none⟩) (Nat.le_refl _) _
            (try simp only [Exit.inBlock, Exit.then])
            refine bodyPost_ret (results_cell_row rfl _ _ w.heap.size _ _ _ _ rfl hR3 Tryd.underlying73 rfl (by kernel_rfl)) rfl ?_
            refine ⟨?_, hfin⟩
            rw [HF.out]
end Go.Proofs.YtkbppaddghfgpaaDoor
