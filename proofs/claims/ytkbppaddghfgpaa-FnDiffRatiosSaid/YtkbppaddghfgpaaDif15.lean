/- The reference's rows and longest blocks. -/
import Derived.Test.YtkbppaddghfgpaaDif14
set_option linter.unusedVariables false
set_option linter.unusedSimpArgs false
namespace Go.Proofs.Ytkbppaddghfgpaa
open Go.RowKit Go.Maps

set_option maxHeartbeats 3200000 in
set_option maxRecDepth 100000 in
theorem specRow (v1 v2 : Value) (a b : List ByteArray) (i j ahi bhi : Nat) (w : World) (hv1 : RdC Value.string w v1 a) (hv2 : RdC Value.string w v2 b) (hah : ahi ≤ a.length) (hbh : bhi ≤ b.length) (hla : a.length ≤ 2147483647) (hlb : b.length ≤ 2147483647) (hi : i ≤ ahi) (hj : j ≤ bhi) :
    Calls Try.prog 64 #[v1, v2, .int .i64 (i : Int), .int .i64 (j : Int), .int .i64 (ahi : Int), .int .i64 (bhi : Int)] w fun e w' => e = .returned (.int .i64 (foreF a b ahi bhi i j ahi 0 : Int)) ∧ Below w.heap.size w w' := by
  obtain ⟨ap, acap, ab, aoff, rfl, hac, hamx, hap, hacell⟩ := hv1
  obtain ⟨bp, bcap, bb, boff, rfl, hbc, hbmx, hbp, hbcell⟩ := hv2
  unfold maxLen at hamx hbmx
  have HAC := Lib.hid hacell
  have HBC := Lib.hid hbcell
  have HAP := Lib.hid hap
  have HBP := Lib.hid hbp
  generalize hFN : foreF a b ahi bhi i j ahi 0 = FN at *
  have HFN := Lib.hid hFN
  clear hacell hbcell hap hbp hFN
  go_enter Try.func64, Try.ntmps64
  go_wp2_with fail
  go_loopw [13] (fun v13 wr => ∃ f n : Nat, v13 = .int .i64 (n : Int) ∧ ahi ≤ f + n ∧ n ≤ ahi ∧ Hid (foreF a b ahi bhi i j f n = FN) ∧ Below w.heap.size w wr) (fun v13 _ => ahi - (intOf v13).toNat)
  case atStart => exact ⟨ahi, 0, rfl, by omega, by omega, HFN, Below.refl _ _⟩
  case round =>
    obtain ⟨f, n, rfl, hif, hna, HB, hbr⟩ := hrel
    have hw1 : IntKind.i64.wrap ((i : Int) + (n : Int)) = (i : Int) + (n : Int) := IntWalk.i64_in _ ⟨by omega, by omega⟩
    have hw2 : IntKind.i64.wrap ((j : Int) + (n : Int)) = (j : Int) + (n : Int) := IntWalk.i64_in _ ⟨by omega, by omega⟩
    by_cases h1 : i + n < ahi
    · have h1' : (i : Int) + (n : Int) < (ahi : Int) := by omega
      by_cases h2 : j + n < bhi
      · have h2' : (j : Int) + (n : Int) < (bhi : Int) := by omega
        have hia : i + n < a.length := by omega
        have hjb : j + n < b.length := by omega
        obtain rfl : ap = some ⟨ab, aoff, none⟩ := by
          rcases HAP.out with h | h
          · rw [h] at hia; simp at hia
          · exact h
        obtain rfl : bp = some ⟨bb, boff, none⟩ := by
          rcases HBP.out with h | h
          · rw [h] at hjb; simp at hjb
          · exact h
        have ca := HAC.out (i + n) a[i + n] (List.getElem?_eq_getElem hia)
        have cb := HBC.out (j + n) b[j + n] (List.getElem?_eq_getElem hjb)
        have ca' : wr.cell? ⟨ab, aoff + (i + n), none⟩ = some (.string a[i + n]) := (hbr.cell (p := ⟨ab, aoff + (i + n), none⟩) (World.block_lt_of_cell? w _ ca)).trans ca
        have cb' : wr.cell? ⟨bb, boff + (j + n), none⟩ = some (.string b[j + n]) := (hbr.cell (p := ⟨bb, boff + (j + n), none⟩) (World.block_lt_of_cell? w _ cb)).trans cb
        clear ca cb
        have HEQ : Hid (a[i + n]? = some a[i + n] ∧ b[j + n]? = some b[j + n]) := Lib.hid ⟨List.getElem?_eq_getElem hia, List.getElem?_eq_getElem hjb⟩
        generalize a[i + n] = r at *
        generalize b[j + n] = s at *
        have hix2 : (i : Int) + (n : Int) < (a.length : Int) := by omega
        have hjx2 : (j : Int) + (n : Int) < (b.length : Int) := by omega
        have hix0 : 0 ≤ (i : Int) + (n : Int) := by omega
        have hjx0 : 0 ≤ (j : Int) + (n : Int) := by omega
        by_cases hrs : r = s
        · subst hrs
          have HE : Hid (foreF a b ahi bhi i j (f - 1) (n + 1) = FN) := Lib.hid ((foreF_yes h1 h2 (by rw [HEQ.out.1, HEQ.out.2]) hif).symm.trans HB.out)
          go_upto_region 2 with fail
          go_quiet (fail)
          have hb3 : Below w.heap.size w (wr.drewN nq) := ⟨hbr.os, hbr.tape, hbr.output, hbr.size, hbr.block⟩
          go_wp2_with fail
          go_roundw
          case rel => exact ⟨f - 1, n + 1, by go_num, by omega, by omega, HE, hb3⟩
          case measure => simp [intOf]; omega
        · have hq := ne_bytes hrs
          have HE : Hid (FN = n) := Lib.hid (HB.out.symm.trans (foreF_no (fun h => hrs (by have h3 := h.2.2; rw [HEQ.out.1, HEQ.out.2] at h3; exact Option.some.inj h3))))
          go_upto_region 2 with fail
          go_quiet (fail)
          have hb3 : Below w.heap.size w (wr.drewN nq) := ⟨hbr.os, hbr.tape, hbr.output, hbr.size, hbr.block⟩
          go_wp2_with fail
          go_ret
          exact ⟨by rw [HE.out]; rfl, hb3⟩
      · have h2' : decide ((j : Int) + (n : Int) < (bhi : Int)) = false := by simp; omega
        have HE : Hid (FN = n) := Lib.hid (HB.out.symm.trans (foreF_no (fun h => h2 h.2.1)))
        go_upto_region 2 with fail
        go_quiet (fail)
        have hb3 : Below w.heap.size w (wr.drewN nq) := ⟨hbr.os, hbr.tape, hbr.output, hbr.size, hbr.block⟩
        go_wp2_with fail
        go_ret
        exact ⟨by rw [HE.out]; rfl, hb3⟩
    · have h1' : decide ((i : Int) + (n : Int) < (ahi : Int)) = false := by simp; omega
      have HE : Hid (FN = n) := Lib.hid (HB.out.symm.trans (foreF_no (fun h => h1 h.1)))
      go_upto_region 2 with fail
      go_quiet (fail)
      have hb3 : Below w.heap.size w (wr.drewN nq) := ⟨hbr.os, hbr.tape, hbr.output, hbr.size, hbr.block⟩
      go_wp2_with fail
      go_ret
      exact ⟨by rw [HE.out]; rfl, hb3⟩

def dlStep (a b : List ByteArray) (ahi bhi x : Nat) (s : Tri) (y : Nat) : Tri := if s.2.2 < foreF a b ahi bhi x y ahi 0 then (x, y, foreF a b ahi bhi x y ahi 0) else s
def dlRow (a b : List ByteArray) (ahi blo bhi x : Nat) (s : Tri) : Nat → Tri
  | 0 => s
  | k + 1 => dlStep a b ahi bhi x (dlRow a b ahi blo bhi x s k) (blo + k)
def dlRun (a b : List ByteArray) (alo ahi blo bhi : Nat) : Nat → Tri
  | 0 => (alo, blo, 0)
  | k + 1 => dlRow a b ahi blo bhi (alo + k) (dlRun a b alo ahi blo bhi k) (bhi - blo)
def dl (a b : List ByteArray) (alo ahi blo bhi : Nat) : Tri := dlRun a b alo ahi blo bhi (ahi - alo)

set_option maxHeartbeats 3200000 in
set_option maxRecDepth 100000 in
theorem specLongest (v1 v2 : Value) (a b : List ByteArray) (alo ahi blo bhi : Nat) (w : World) (hv1 : RdC Value.string w v1 a) (hv2 : RdC Value.string w v2 b) (haa : alo ≤ ahi) (hah : ahi ≤ a.length) (hbb : blo ≤ bhi) (hbh : bhi ≤ b.length) (hla : a.length ≤ 2147483647) (hlb : b.length ≤ 2147483647) :
    Calls Try.prog 51 #[v1, v2, .int .i64 (alo : Int), .int .i64 (ahi : Int), .int .i64 (blo : Int), .int .i64 (bhi : Int)] w fun e w' => e = .returned (.tuple #[.int .i64 ((dl a b alo ahi blo bhi).1 : Int), .int .i64 ((dl a b alo ahi blo bhi).2.1 : Int), .int .i64 ((dl a b alo ahi blo bhi).2.2 : Int)]) ∧ Below w.heap.size w w' := by
  have HV1 := Lib.hid hv1
  have HV2 := Lib.hid hv2
  have hs1 : ∃ x l c, v1 = .slice x l c := by obtain ⟨x, y, _, _, h, _⟩ := hv1; exact ⟨x, _, y, h⟩
  have hs2 : ∃ x l c, v2 = .slice x l c := by obtain ⟨x, y, _, _, h, _⟩ := hv2; exact ⟨x, _, y, h⟩
  clear hv1 hv2
  obtain ⟨x1, x2, x3, rfl⟩ := hs1
  obtain ⟨y1, y2, y3, rfl⟩ := hs2
  go_enter Try.func51, Try.ntmps51
  go_wp2_with fail
  go_loopw [15, 16, 17, 18] (fun v15 v16 v17 v18 wr => ∃ k : Nat, alo + k ≤ ahi ∧ v15 = .int .i64 ((dlRun a b alo ahi blo bhi k).1 : Int) ∧ v16 = .int .i64 ((dlRun a b alo ahi blo bhi k).2.1 : Int) ∧ v17 = .int .i64 ((dlRun a b alo ahi blo bhi k).2.2 : Int) ∧ v18 = .int .i64 ((alo : Int) + (k : Int)) ∧ Below w.heap.size w wr)
    (fun _ _ _ v18 _ => ahi - (intOf v18).toNat)
  case atStart => exact ⟨0, by omega, rfl, rfl, rfl, by simp, Below.refl _ _⟩
  case round =>
    obtain ⟨k, hk, rfl, rfl, rfl, rfl, hbr⟩ := hrel
    by_cases hlt : alo + k < ahi
    · have hlt' : (alo : Int) + (k : Int) < (ahi : Int) := by omega
      have hd1 : decide ((alo : Int) + (k : Int) < (ahi : Int)) = true := by simp; omega
      have HR : Hid (dlRun a b alo ahi blo bhi (k + 1) = dlRow a b ahi blo bhi (alo + k) (dlRun a b alo ahi blo bhi k) (bhi - blo)) := Lib.hid rfl
      generalize dlRun a b alo ahi blo bhi k = S0 at *
      go_wp2_with fail
      go_loopw [15, 16, 17, 19] (fun v15 v16 v17 v19 wr => ∃ q : Nat, blo + q ≤ bhi ∧ v15 = .int .i64 ((dlRow a b ahi blo bhi (alo + k) S0 q).1 : Int) ∧ v16 = .int .i64 ((dlRow a b ahi blo bhi (alo + k) S0 q).2.1 : Int) ∧ v17 = .int .i64 ((dlRow a b ahi blo bhi (alo + k) S0 q).2.2 : Int) ∧ v19 = .int .i64 ((blo : Int) + (q : Int)) ∧ Below w.heap.size w wr)
        (fun _ _ _ v19 _ => bhi - (intOf v19).toNat)
      case atStart => exact ⟨0, by omega, rfl, rfl, rfl, by simp, hbr⟩
      case round =>
        obtain ⟨q, hq, rfl, rfl, rfl, rfl, hbi⟩ := hrel
        by_cases hqt : blo + q < bhi
        · have hqt' : (blo : Int) + (q : Int) < (bhi : Int) := by omega
          have hd2 : decide ((blo : Int) + (q : Int) < (bhi : Int)) = true := by simp; omega
          have HS : Hid (dlRow a b ahi blo bhi (alo + k) S0 (q + 1) = dlStep a b ahi bhi (alo + k) (dlRow a b ahi blo bhi (alo + k) S0 q) (blo + q)) := Lib.hid rfl
          generalize dlRow a b ahi blo bhi (alo + k) S0 q = S1 at *
          have hcall := specRow _ _ a b (alo + k) (blo + q) ahi bhi wr (HV1.out.below hbi) (HV2.out.below hbi) hah hbh hla hlb (by omega) (by omega)
          have HC := Lib.hid hcall
          clear hcall
          go_wp2_with (go_at_call 64; go_must (refine HC.out.mono ?_))
          rintro e w5 ⟨rfl, hb5⟩
          have hb6 := hbi.trans (hb5.mono hbi.size)
          have HD : Hid (dlStep a b ahi bhi (alo + k) S1 (blo + q) = if S1.2.2 < foreF a b ahi bhi (alo + k) (blo + q) ahi 0 then (alo + k, blo + q, foreF a b ahi bhi (alo + k) (blo + q) ahi 0) else S1) := Lib.hid rfl
          generalize foreF a b ahi bhi (alo + k) (blo + q) ahi 0 = R at *
          by_cases hR : S1.2.2 < R
          · have hR' : (S1.2.2 : Int) < (R : Int) := by omega
            have HE := Lib.hid (HS.out.trans (HD.out.trans (if_pos hR)))
            go_wp2_with fail
            go_roundw
            case rel => exact ⟨q + 1, by omega, by rw [HE.out]; go_num, by rw [HE.out]; go_num, by rw [HE.out], by go_num, hb6⟩
            case measure => simp [intOf]; omega
          · have hR' : ¬ (S1.2.2 : Int) < (R : Int) := by omega
            have HE := Lib.hid (HS.out.trans (HD.out.trans (if_neg hR)))
            go_wp2_with fail
            go_roundw
            case rel => exact ⟨q + 1, by omega, by rw [HE.out], by rw [HE.out], by rw [HE.out], by go_num, hb6⟩
            case measure => simp [intOf]; omega
        · have hqe : q = bhi - blo := by omega
          have HE : Hid (dlRun a b alo ahi blo bhi (k + 1) = dlRow a b ahi blo bhi (alo + k) S0 q) := Lib.hid (by rw [HR.out, hqe])
          have hqt' : ¬ (blo : Int) + (q : Int) < (bhi : Int) := by omega
          clear hqe
          generalize dlRow a b ahi blo bhi (alo + k) S0 q = S1 at *
          go_wp2_with fail
          go_roundw
          case rel => exact ⟨k + 1, by omega, by rw [HE.out], by rw [HE.out], by rw [HE.out], by go_num, hbi⟩
          case measure => simp [intOf]; omega
    · have hke : ahi - alo = k := by omega
      have hlt' : ¬ (alo : Int) + (k : Int) < (ahi : Int) := by omega
      have HE : Hid (dl a b alo ahi blo bhi = dlRun a b alo ahi blo bhi k) := Lib.hid (by unfold dl; rw [hke])
      clear hke
      go_wp2_with fail
      go_ret3
      exact ⟨by rw [HE.out]; rfl, hbr⟩
end Go.Proofs.Ytkbppaddghfgpaa
