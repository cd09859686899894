/- The reference's count of common elements; its QuickRatio. -/
import Derived.Test.YtkbppaddghfgpaaDif29
import Derived.Deep.OwnRows
set_option linter.unusedVariables false
set_option linter.unusedSimpArgs false
namespace Go.Proofs.Ytkbppaddghfgpaa
open Go.RowKit Go.Maps

theorem info_bool : (Try.prog.info? 4).map (fun i => (i.zero, i.size, i.bytes)) = some (some (.bool false), 1, 1) := by kernel_rfl
/-- The row of what has been used. -/
def Us (w : World) (U n : Nat) (us : List Bool) : Prop := w.rowIs U 4 n (fun j => .bool (us.getD j false))
theorem Us.set {w : World} {U n : Nat} {us : List Bool} (h : Us w U n us) (j : Nat) (hj : j < us.length) : Us (w.setCell ⟨U, j, none⟩ (.bool true)) U n (us.set j true) := by
  refine (World.rowIs.set h j (.bool true)).congr fun k hk => ?_
  by_cases he : k = j
  · subst he
    rw [if_pos rfl, List.getD_eq_getElem?_getD, List.getElem?_set_self hj]
    rfl
  · rw [if_neg he, List.getD_eq_getElem?_getD, List.getD_eq_getElem?_getD, List.getElem?_set_ne (fun e => he e.symm)]
theorem Us.at {w : World} {U n : Nat} {us : List Bool} (h : Us w U n us) (j : Nat) (hn : us.length = n) (hj : j < n) : w.cell? ⟨U, j, none⟩ = some (.bool (us[j]'(by omega))) := by
  rw [World.rowIs.cell h hj, List.getD_eq_getElem?_getD, List.getElem?_eq_getElem (by omega)]
  rfl
theorem run_used (w : World) (n : Nat) (hn : n ≤ 2147483647) : (Instr.makeSlice 102 (.int .i64 (n : Int)) (.int .i64 (n : Int))).run Try.prog w = .ok (.slice (some ⟨w.heap.size, 0, none⟩) n n) (w.alloc (.cells (madeCells #[.bool false] n) 4)) := by
  obtain ⟨i0, hi, hz0, hz1, hz2⟩ := info_parts info_bool
  have := run_make (P := Try.prog) w 102 4 i0 (.bool false) Try.underlying102 hi hz0 .i64 .i64 (n : Int) (n : Int) (by omega) (by omega) (by rw [hz2]; omega) (by omega)
  rw [this, hz1, Int.toNat_natCast, Nat.mul_one]
  rfl

set_option maxHeartbeats 3200000 in
set_option maxRecDepth 100000 in
theorem specCommon {a b : List ByteArray} (v1 v2 : Value) (w : World) (hv1 : RdC Value.string w v1 a) (hv2 : RdC Value.string w v2 b) (hla : a.length ≤ 2147483647) (hlb : b.length ≤ 2147483647) :
    Calls Try.prog 48 #[v1, v2] w fun e w' => e = .returned (.int .i64 (comm a b : Int)) ∧ Below w.heap.size w w' := by
  obtain ⟨ap, acap, ab, aoff, rfl, hac, hamx, hap, hacell⟩ := hv1
  obtain ⟨bp, bcap, bb, boff, rfl, hbc, hbmx, hbp, hbcell⟩ := hv2
  unfold maxLen at hamx hbmx
  have HAC := Lib.hid hacell
  have HBC := Lib.hid hbcell
  clear hacell hbcell
  have hmk := run_used w b.length hlb
  have hus0 : Us (w.alloc (.cells (madeCells #[.bool false] b.length) 4)) w.heap.size b.length (List.replicate b.length false) := (World.rowIs_made w (.bool false) b.length 4).congr fun k hk => by
    rw [List.getD_eq_getElem?_getD, List.getElem?_replicate, if_pos hk]; rfl
  have hb1 : Below w.heap.size w (w.alloc (.cells (madeCells #[.bool false] b.length) 4)) := (Below.refl _ w).alloc (Nat.le_refl _) _
  go_enter Try.func48, Try.ntmps48
  go_upto_region 3 with fail
  generalize hU : w.heap.size = U at *
  have HU := Lib.hid hU
  clear hmk hU
  generalize w.alloc (.cells (madeCells #[.bool false] b.length) 4) = w1 at *
  go_wp2_with fail
  go_loopw [5, 7] (fun v5 v7 wr => ∃ (i m : Nat) (us : List Bool), i ≤ a.length ∧ v5 = .int .i64 (m : Int) ∧ v7 = .int .i64 (i : Int) ∧ m ≤ i ∧ us.length = b.length ∧ Hid (m + comm (a.drop i) (lft b us) = comm a b) ∧ Us wr U b.length us ∧ Below U w wr) (fun _ v7 _ => a.length - (intOf v7).toNat)
  case atStart => exact ⟨0, 0, _, Nat.zero_le _, rfl, rfl, Nat.le_refl _, List.length_replicate, Lib.hid (by rw [Nat.zero_add, lft_start]; rfl), hus0, hb1⟩
  case round =>
    obtain ⟨i, m, us, hi, rfl, rfl, hmi, hul, HQ, hus, hbr⟩ := hrel
    clear hus0 hb1
    generalize wr = w3 at *
    by_cases hlt : i < a.length
    · have hlt' : (i : Int) < (a.length : Int) := by omega
      have hd : decide ((i : Int) < (a.length : Int)) = true := by simp; omega
      obtain rfl : ap = some ⟨ab, aoff, none⟩ := by
        rcases hap with h | h
        · rw [h] at hlt; exact absurd hlt (Nat.not_lt_zero _)
        · exact h
      have ca := HAC.out i a[i] (List.getElem?_eq_getElem hlt)
      have hq : m + comm (a[i] :: a.drop (i + 1)) (lft b us) = comm a b := by rw [← List.drop_eq_getElem_cons hlt]; exact HQ.out
      have HQ2 := Lib.hid hq
      clear hq HQ
      generalize a[i] = x at *
      go_wp2_with fail
      go_loopw [5, 8] (fun v5 v8 wr => ∃ j : Nat, j ≤ b.length ∧ v5 = .int .i64 (m : Int) ∧ v8 = .int .i64 (j : Int) ∧ ¬ x ∈ lft (b.take j) (us.take j) ∧ Us wr U b.length us ∧ Below U w wr) (fun _ v8 _ => b.length - (intOf v8).toNat)
      case atStart => exact ⟨0, Nat.zero_le _, rfl, rfl, by simp [lft], hus, hbr⟩
      case round =>
        obtain ⟨j, hj, rfl, rfl, hnx, husr, hbr2⟩ := hrel
        clear hus hbr
        by_cases hlt2 : j < b.length
        · have hlt2' : (j : Int) < (b.length : Int) := by omega
          obtain rfl : bp = some ⟨bb, boff, none⟩ := by
            rcases hbp with h | h
            · rw [h] at hlt2; exact absurd hlt2 (Nat.not_lt_zero _)
            · exact h
          have cb := HBC.out j b[j] (List.getElem?_eq_getElem hlt2)
          have ca' : wr.cell? ⟨ab, aoff + i, none⟩ = some (.string x) := (hbr2.cell (p := ⟨ab, aoff + i, none⟩) (by rw [← HU.out]; exact World.block_lt_of_cell? w _ ca)).trans ca
          have cb' : wr.cell? ⟨bb, boff + j, none⟩ = some (.string b[j]) := (hbr2.cell (p := ⟨bb, boff + j, none⟩) (by rw [← HU.out]; exact World.block_lt_of_cell? w _ cb)).trans cb
          have cu := husr.at j hul hlt2
          have hfz := World.rowIs.frozen husr j
          clear cb
          have HNX := Lib.hid hnx
          clear hnx
          have HUS := Lib.hid husr
          have hlj : j < us.length := by omega
          cases hu : us[j] with
          | true =>
            rw [hu] at cu
            have HN := Lib.hid (lft_next hul hlt2 x HNX.out (.inl hu))
            generalize b[j] = y at *
            clear hu
            go_upto_region 9 with fail
            go_big_quiet (fail)
            have hb3 : Below U w (wr.drewN nq) := ⟨hbr2.os, hbr2.tape, hbr2.output, hbr2.size, hbr2.block⟩
            have hu3 : Us (wr.drewN nq) U b.length us := HUS.out
            go_wp2_with fail
            go_roundw
            case rel => exact ⟨j + 1, by omega, rfl, by go_num, HN.out, hu3, hb3⟩
            case measure => simp [intOf]; omega
          | false =>
            rw [hu] at cu
            by_cases hxy : x = b[j]
            · have HH : Hid (m + 1 + comm (a.drop (i + 1)) (lft b (us.set j true)) = comm a b) := Lib.hid (by
                have := HQ2.out
                rw [comm_hit hul hlt2 hu x hxy.symm HNX.out] at this
                omega)
              rw [← hxy] at cb'
              have HX := Lib.hid hxy
              clear hxy hu
              go_upto_region 9 with fail
              go_big_quiet (fail)
              have hb3 : Below U w (wr.drewN nq) := ⟨hbr2.os, hbr2.tape, hbr2.output, hbr2.size, hbr2.block⟩
              have hu3 : Us (wr.drewN nq) U b.length us := HUS.out
              have hfz3 := World.rowIs.frozen hu3 j
              have cu3 : (wr.drewN nq).cell? ⟨U, j, none⟩ = some (.bool false) := cu
              have hu4 := hu3.set j hlj
              have hb4 := hb3.setCell (p := ⟨U, j, none⟩) (Nat.le_refl U) (.bool true)
              generalize wr.drewN nq = w4 at *
              go_wp2_with fail
              go_roundw
              case rel => exact ⟨i + 1, m + 1, us.set j true, by omega, by go_num, by go_num, by omega, by rw [List.length_set]; exact hul, HH, hu4, hb4⟩
              case measure => simp [intOf]; omega
            · have hne := ne_bytes hxy
              have HN := Lib.hid (lft_next hul hlt2 x HNX.out (.inr hxy))
              generalize b[j] = y at *
              have HX := Lib.hid hxy
              clear hxy hu
              go_upto_region 9 with fail
              go_big_quiet (fail)
              have hb3 : Below U w (wr.drewN nq) := ⟨hbr2.os, hbr2.tape, hbr2.output, hbr2.size, hbr2.block⟩
              have hu3 : Us (wr.drewN nq) U b.length us := HUS.out
              go_wp2_with fail
              go_roundw
              case rel => exact ⟨j + 1, by omega, rfl, by go_num, HN.out, hu3, hb3⟩
              case measure => simp [intOf]; omega
        · have hjl : j = b.length := by omega
          have hlt2' : ¬ (j : Int) < (b.length : Int) := by omega
          subst hjl
          have HH : Hid (m + comm (a.drop (i + 1)) (lft b us) = comm a b) := Lib.hid (by
            have := HQ2.out
            rw [comm_miss x hul hnx] at this
            exact this)
          go_wp2_with fail
          go_roundw
          case rel => exact ⟨i + 1, m, us, by omega, rfl, by go_num, by omega, hul, HH, husr, hbr2⟩
          case measure => simp [intOf]; omega
    · have hil : i = a.length := by omega
      have hlt' : ¬ (i : Int) < (a.length : Int) := by omega
      have hd : decide ((i : Int) < (a.length : Int)) = false := by simp; omega
      subst hil
      have HE : Hid (comm a b = m) := Lib.hid (by have h := HQ.out; rw [List.drop_length] at h; exact h.symm)
      go_wp2_with fail
      go_ret
      exact ⟨by rw [HE.out]; rfl, by rw [HU.out]; exact hbr⟩
end Go.Proofs.Ytkbppaddghfgpaa
