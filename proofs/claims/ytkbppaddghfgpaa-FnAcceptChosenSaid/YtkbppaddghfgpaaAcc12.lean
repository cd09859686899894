/- impl.ParseAccept, acceptAwake. -/
import Derived.Test.YtkbppaddghfgpaaAcc11
set_option linter.unusedVariables false
set_option linter.unusedSimpArgs false
namespace Go.Proofs.Ytkbppaddghfgpaa
open Go.RowKit

theorem info_ia : (Try.prog.info? 67).map (fun i => (i.zero, i.size, i.bytes)) = some (some (.agg #[.string ⟨#[]⟩, .float .f64 0]), 2, 24) := by kernel_rfl
/-- A map of one entry, made on the way. -/
theorem map_made (key : ByteArray) (hks : key.size ≤ maxLen) (v : Value) (w : World) :
    ∃ w2, (Instr.mapUpdate 69 (.map (some w.heap.size)) (.string key) v).run Try.prog (w.alloc (.map #[] 0)) = .ok () w2 ∧ Below w.heap.size w w2 ∧
      ∀ w', Below w2.heap.size w2 w' → (Instr.lookup 69 (.map (some w.heap.size)) (.string key) false).run Try.prog w' = .ok v w' := by
  have h1 := map_ins1 (P := Try.prog) Try.underlying69 Try.underlying9 (w.alloc (.map #[] 0)) w.heap.size key hks v (heap_alloc_new w _)
  refine ⟨_, h1, ?_, fun w' hb => ?_⟩
  · refine ⟨rfl, rfl, rfl, ?_, fun i hi => ?_⟩
    · simp
    · have h2 := ((Below.refl w.heap.size w).alloc (Nat.le_refl _) (.map #[] 0)).block i hi
      rw [← h2]
      simp only
      rw [Array.getElem?_setIfInBounds_ne (by omega)]
  · refine map_look1 Try.underlying69 Try.underlying9 w' w.heap.size key hks v 0 1 ?_
    rw [hb.block _ (by simp)]
    simp

set_option maxHeartbeats 3200000 in
set_option maxRecDepth 100000 in
theorem implParse (v : Value) (g : List UInt8) (ess : List (List Ent)) (w : World) (hg : g = [] ∨ g = [32])
    (hv : RdC Value.string w v (ess.map (lineB g))) (hn : ess.length ≤ 2147483647) (htot : ess.flatten.length ≤ 4294967296)
    (hok : ∀ es ∈ ess, ∀ x ∈ es, EntOk x) (hsz : ∀ es ∈ ess, (lineL g es).length ≤ 9223372036854775806) :
    Calls Try.prog 32 #[v] w fun e w' => (∃ v', e = .returned v' ∧ RdP fV fQ w' v' ess.flatten) ∧ Below w.heap.size w w' := by
  have HOK := Lib.hid hok
  have HSZ := Lib.hid hsz
  have HV := Lib.hid hv
  clear hok hsz hv
  obtain ⟨i0, hi, hz0, hz1, hz2⟩ := info_parts info_ia
  obtain ⟨w2, hins, hb2, hlook⟩ := map_made ⟨#[65]⟩ (by decide) v w
  have HLK := Lib.hid hlook
  clear hlook
  have hmk := fun t => run_makeMap (P := Try.prog) t w
  go_enter Try.func32, Try.ntmps32
  go_wp2_with (go_at_call 49; go_must (refine (hdrParse _ v _ g ess _ hg HLK.out (HV.out.below hb2) hn htot HOK.out HSZ.out).mono ?_))
  rintro e w3 ⟨⟨v3, rfl, hrd⟩, hb3⟩
  have hb23 := hb2.trans (hb3.mono hb2.size)
  clear hins hmk HLK HV HOK HSZ
  generalize hL : ess.flatten = L at *
  have HL := Lib.hid hL
  clear hL
  obtain ⟨a, cap, b, off, rfl, hcap, hmx, ha, hc⟩ := hrd
  unfold maxLen at hmx
  go_wp2_with fail
  go_loopw [3, 11] (fun ov iv wr => ∃ k : Nat, k ≤ L.length ∧ iv = .int .i64 k ∧ wr.ownsRow w3.heap.size 67 2 ov k (two fV fQ (L.take k)) ∧ Below w3.heap.size w3 wr) (fun _ iv _ => L.length - (intOf iv).toNat)
  case atStart => exact ⟨0, Nat.zero_le _, rfl, ⟨rfl, .inl ⟨rfl, rfl⟩⟩, Below.refl _ _⟩
  case round =>
    obtain ⟨k, hk, rfl, hown, hbr⟩ := hrel
    by_cases hlt : k < L.length
    · obtain rfl : a = some ⟨b, off, none⟩ := by
        rcases ha with h | h
        · rw [h] at hlt; exact absurd hlt (Nat.not_lt_zero _)
        · exact h
      obtain ⟨c1, c2⟩ := hc k L[k] (List.getElem?_eq_getElem hlt)
      have c1' : wr.cell? ⟨b, off + k * 2, none⟩ = some (.string L[k].1) := (hbr.cell (p := ⟨b, off + k * 2, none⟩) (World.block_lt_of_cell? w3 _ c1)).trans c1
      have c2' : wr.cell? ⟨b, off + k * 2 + 1, none⟩ = some (.float .f64 (qE L[k].2)) := (hbr.cell (p := ⟨b, off + k * 2 + 1, none⟩) (World.block_lt_of_cell? w3 _ c2)).trans c2
      have HT : Hid (two fV fQ (L.take (k + 1)) = two fV fQ (L.take k) ++ [.string L[k].1, .float .f64 (qE L[k].2)]) := Lib.hid (by rw [List.take_succ_eq_append_getElem hlt, two_snoc]; rfl)
      clear c1 c2 hc
      generalize L[k] = y at *
      obtain ⟨va, d⟩ := y
      simp only at c1' c2' HT
      generalize qE d = q at *
      have hsz1 := hbr.size
      go_wp2_with (at_builtin; go_must (refine wpList_append_own _ rfl _ _ 65 rfl w3.heap.size 67 i0 (.agg #[.string ⟨#[]⟩, .float .f64 0]) 2 24 Try.underlying65 hi hz0 hz1 hz2 rfl (by decide) _ _ _ rfl (own_below hown (((Below.refl _ wr).alloc (Nat.le_refl _) _).alloc (by simp) _)) ⟨wr.heap.size + 1, 0, none⟩ 1 1 [.string va, .float .f64 q] rfl rfl (cell_two_at _ _ _ _ _ (by simp)) (by intro u hu; simp at hu; rcases hu with rfl | rfl <;> rfl) (by unfold maxLen; omega) (by omega) (by simp; omega) ?_))
      intro v' w5 hown' hgrow _
      have hX := ((Below.refl wr.heap.size wr).alloc (Nat.le_refl _) (.cells #[.string va, .float .f64 q] 88)).alloc (by simp) (.cells #[.string va, .float .f64 q] 67)
      have hb5 := (hbr.trans (hX.mono hbr.size)).grown hgrow (by simp; omega) (fun j hj => (hown.lt j hj).1)
      go_wp2_with fail
      go_roundw
      case rel => exact ⟨k + 1, by omega, by go_num, by rw [HT.out]; exact hown', hb5⟩
      case measure => simp [intOf]; omega
    · rw [List.take_of_length_le (by omega)] at hown
      have hk2 : k = L.length := by omega
      subst hk2
      go_wp2_with fail
      go_ret
      refine ⟨⟨_, rfl, ?_⟩, hb23.trans (hbr.mono hb23.size)⟩
      rw [HL.out]
      exact RdP.of_owns hown
      --.trans (hbr.mono hb23.size)⟩

def gzipS : ByteArray := ⟨#[103, 122, 105, 112]⟩
def emptyS : ByteArray := ⟨#[]⟩
theorem gz_ok : EntOk (gzipS, emptyS) := ⟨⟨by decide, by decide +kernel⟩, fun h => absurd rfl h⟩
theorem one_line {w : World} {g : Nat} {x : ByteArray} (h0 : w.cell? ⟨g, 0, none⟩ = some (.string x)) : RdC Value.string w (.slice (some ⟨g, 0, none⟩) 1 1) [x] := by
  refine ⟨_, 1, g, 0, rfl, Nat.le_refl _, by unfold maxLen; omega, .inr rfl, fun i z hz => ?_⟩
  match i, hz with
  | 0, hz => simp at hz; subst hz; exact h0
theorem one_eq : (Ieee.double.order 4607182418800017408 4607182418800017408 == some .eq) = true := by decide +kernel

set_option maxHeartbeats 1600000 in
set_option maxRecDepth 100000 in
theorem awake (w : World) :
    Calls Try.prog 11 #[] w fun e w' => e = .returned (.bool true) ∧ Below w.heap.size w w' := by
  go_enter Try.func11, Try.ntmps11
  go_wp2_with (go_at_call 32; go_must (refine (implParse _ [] [[(gzipS, emptyS)]] _ (.inl rfl) (one_line (cell_one_new _ _ _ 0 _ rfl)) (by decide) (by decide) (by intro es hes x hx; simp at hes; subst hes; simp at hx; subst hx; exact gz_ok) (by intro es hes; simp at hes; subst hes; decide)).mono ?_))
  rintro e w1 ⟨⟨v1, rfl, hrd⟩, hb1⟩
  obtain ⟨a, cap, b, off, rfl, hcap, hmx, ha, hc⟩ := hrd
  obtain rfl : a = some ⟨b, off, none⟩ := by
    rcases ha with h | h
    · exact absurd h (by simp)
    · exact h
  obtain ⟨c1, c2⟩ := hc 0 (gzipS, emptyS) rfl
  simp only [Nat.zero_mul, Nat.add_zero, fV, fQ] at c1 c2
  have hq : qE emptyS = 4607182418800017408 := rfl
  rw [hq] at c2
  clear hc hq
  have hgz : (gzipS.toList == [103, 122, 105, 112]) = true := by rw [Lib.toList_data]; rfl
  go_wp2_with fail
  go_ret
  exact ⟨ret_bool one_eq, ((Below.refl _ w).alloc (Nat.le_refl _) _).trans (hb1.mono (by simp))⟩
end Go.Proofs.Ytkbppaddghfgpaa
