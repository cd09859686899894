/- Ratio, diffMatched. -/
import Derived.Test.YtkbppaddghfgpaaDif27
import Derived.Test.YtkbppaddghfgpaaMat
set_option linter.unusedVariables false
set_option linter.unusedSimpArgs false
namespace Go.Proofs.Ytkbppaddghfgpaa
open Go.RowKit Go.Maps

set_option maxHeartbeats 1600000 in
set_option maxRecDepth 100000 in
theorem diffMatched (v : Value) (ms : List Tri) (la : Nat) (w : World) (hv : RdF w v (ms.map blockEd)) (hs : szs ms ≤ 2147483647) (hb : ∀ t ∈ ms, t.1 + t.2.2 ≤ 2147483647) :
    Calls Try.prog 25 #[v] w fun e w' => e = .returned (.int .i64 (szs ms : Int)) ∧ Below w.heap.size w w' := by
  have HB := Lib.hid hb
  obtain ⟨gp, gcap, gb, goff, rfl, hgc, hgmx, hgp, hgcell⟩ := hv
  rw [List.length_map] at hgc ⊢
  have HGC := Lib.hid hgcell
  unfold maxLen at hgmx
  clear hgcell hb
  go_enter Try.func25, Try.ntmps25
  go_wp2_with fail
  go_loopw [3, 4] (fun v3 v4 wr => ∃ t : Nat, t ≤ ms.length ∧ v3 = .int .i64 (szs (ms.take t) : Int) ∧ v4 = .int .i64 (t : Int) ∧ Below w.heap.size w wr) (fun _ v4 _ => ms.length - (intOf v4).toNat)
  case atStart => exact ⟨0, Nat.zero_le _, rfl, rfl, Below.refl _ _⟩
  case round =>
    obtain ⟨t, ht, rfl, rfl, hbr⟩ := hrel
    by_cases hlt : t < ms.length
    · have hlt' : (t : Int) < (ms.length : Int) := by omega
      obtain rfl : gp = some ⟨gb, goff, none⟩ := by
        rcases hgp with h | h
        · have : ms = [] := by simpa using h
          rw [this] at hlt; exact absurd hlt (Nat.not_lt_zero _)
        · exact h
      obtain ⟨e0, e1, e2, e3, e4⟩ := HGC.out t (blockEd ms[t]) (by rw [List.getElem?_map, List.getElem?_eq_getElem hlt]; rfl)
      have hbd := HB.out ms[t] (List.getElem_mem hlt)
      obtain ⟨hsz, hsm⟩ := szs_take ms t hlt
      have HSZ := Lib.hid hsz
      clear hsz
      generalize ms[t] = tr at *
      generalize szs (ms.take t) = S at *
      obtain ⟨i2, j2, k2⟩ := tr
      simp only [blockEd] at e0 e1 e2 e3 e4 hbd hsm HSZ
      have f1 := (hbr.cell (p := ⟨gb, goff + t * 5 + 1, none⟩) (World.block_lt_of_cell? w _ e1)).trans e1
      have f2 : wr.cell? ⟨gb, goff + t * 5 + 2, none⟩ = some (.int .i64 ((i2 : Int) + (k2 : Int))) := (hbr.cell (p := ⟨gb, goff + t * 5 + 2, none⟩) (World.block_lt_of_cell? w _ e2)).trans e2
      have hw1 : IntKind.i64.wrap ((S : Int) + ((i2 : Int) + (k2 : Int))) = (S : Int) + ((i2 : Int) + (k2 : Int)) := IntWalk.i64_in _ ⟨by omega, by omega⟩
      have hw2 : IntKind.i64.wrap ((S : Int) + ((i2 : Int) + (k2 : Int)) - (i2 : Int)) = (S : Int) + (k2 : Int) := (IntWalk.i64_in _ ⟨by omega, by omega⟩).trans (by omega)
      clear e0 e1 e2 e3 e4
      go_upto_region 5 with fail
      go_big_quiet (fail)
      have hb3 : Below w.heap.size w (wr.drewN nq) := ⟨hbr.os, hbr.tape, hbr.output, hbr.size, hbr.block⟩
      go_wp2_with fail
      go_roundw
      case rel => exact ⟨t + 1, by omega, by rw [HSZ.out]; rfl, by go_num, hb3⟩
      case measure => simp [intOf]; omega
    · have hkl : t = ms.length := by omega
      have hlt' : ¬ (t : Int) < (ms.length : Int) := by omega
      subst hkl
      rw [List.take_length] at *
      go_wp2_with fail
      go_ret
      exact ⟨rfl, hbr⟩

set_option maxHeartbeats 1600000 in
set_option maxRecDepth 100000 in
theorem mRatio {M : Nat} {a b : List ByteArray} {L : ByteArray → List Nat} (ap bp : Option Addr) (ac bc : Nat) (jv ju pv : Value) (w : World) (hm : Mem0 w M a b L) (hL : ∀ v j, j ∈ L v → b[j]? = some v)
    (hla : a.length ≤ 2147483647) (hlb : b.length ≤ 2147483647) (hsa : ∀ s ∈ a, s.size ≤ maxLen) (hsb : ∀ s ∈ b, s.size ≤ maxLen)
    (hMat : Mat w M (.slice ap a.length ac) (.slice bp b.length bc) jv ju (.slice none 0 0) pv (.slice none 0 0)) :
    Calls Try.prog 45 #[.pointer (some ⟨M, 0, none⟩)] w
      fun e w' => e = .returned (.float .f64 (ratV (szs (gmb a b L)) (a.length + b.length))) ∧ (∃ blv, Mat w' M (.slice ap a.length ac) (.slice bp b.length bc) jv ju blv pv (.slice none 0 0)) ∧ Below M w w' := by
  have HL := Lib.hid hL
  have HSA := Lib.hid hsa
  have HSB := Lib.hid hsb
  have HM := Lib.hid hm
  have hsl := Nat.le_trans (matched_le (a := a) HL.out) (comm_le_left a b)
  obtain ⟨hbd, hml⟩ := gmb_bound (a := a) HL.out
  have HBD := Lib.hid hbd
  clear hL hsa hsb hm hbd
  go_enter Try.func45, Try.ntmps45
  go_wp2_with (go_at_call 39; go_must (refine (blocks_anyS w HM.out HL.out hla hlb HSA.out HSB.out).mono ?_))
  rintro e w1 ⟨⟨mv, rfl, hrd, av', bv', jv', jk', pv', hM0, hM1⟩, hb1⟩
  have hM2 : Mat w1 M (.slice ap a.length ac) (.slice bp b.length bc) jv ju mv pv (.slice none 0 0) := by
    have := hMat.symm.trans hM0
    injection this with this
    injection this with this _ _
    injection this with this
    simp only [List.cons.injEq] at this
    obtain ⟨r1, r2, r3, _, _, r4, _, _, r5, _⟩ := this
    rw [r1, r2, r3, r4, r5]
    exact hM1
  clear hM0 hM1 hMat HM HL HSA HSB
  generalize hgmb : gmb a b L = ms at *
  have HGM := Lib.hid hgmb
  clear hgmb
  obtain ⟨mp, mcap, mb, moff, rfl, hmc, hmmx, hmp, hmcell⟩ := hrd
  unfold maxLen at hmmx
  have HMC := Lib.hid hmcell
  clear hmcell
  have hML := hM2.lt
  go_wp2_with fail
  go_loopw [3, 9] (fun v3 v9 wr => ∃ t : Nat, t ≤ ms.length ∧ v3 = .int .i64 (szs (ms.take t) : Int) ∧ v9 = .int .i64 (t : Int) ∧ Below w1.heap.size w1 wr) (fun _ v9 _ => ms.length - (intOf v9).toNat)
  case atStart => exact ⟨0, Nat.zero_le _, rfl, rfl, Below.refl _ _⟩
  case round =>
    obtain ⟨t, ht, rfl, rfl, hbr⟩ := hrel
    by_cases hlt : t < ms.length
    · have hlt' : (t : Int) < (ms.length : Int) := by omega
      obtain rfl : mp = some ⟨mb, moff, none⟩ := by
        rcases hmp with h | h
        · rw [h] at hlt; exact absurd hlt (Nat.not_lt_zero _)
        · exact h
      obtain ⟨c1, c2, c3⟩ := HMC.out t ms[t] (List.getElem?_eq_getElem hlt)
      have hbd := HBD.out ms[t] (List.getElem_mem hlt)
      obtain ⟨hsz, hsm⟩ := szs_take ms t hlt
      have HSZ := Lib.hid hsz
      clear hsz
      generalize ms[t] = tr at *
      generalize szs (ms.take t) = S at *
      obtain ⟨i2, j2, k2⟩ := tr
      simp only at c1 c2 c3 hbd hsm HSZ
      have d1 := (hbr.cell (p := ⟨mb, moff + t * 3, none⟩) (World.block_lt_of_cell? w1 _ c1)).trans c1
      have d2 := (hbr.cell (p := ⟨mb, moff + t * 3 + 1, none⟩) (World.block_lt_of_cell? w1 _ c2)).trans c2
      have d3 := (hbr.cell (p := ⟨mb, moff + t * 3 + 2, none⟩) (World.block_lt_of_cell? w1 _ c3)).trans c3
      clear c1 c2 c3
      have hbr4 := fun o => hbr.alloc hbr.size o
      go_wp2_with fail
      go_roundw
      case rel => exact ⟨t + 1, by omega, by rw [HSZ.out]; go_num, by go_num, hbr4 _⟩
      case measure => simp [intOf]; omega
    · have hkl : t = ms.length := by omega
      have hlt' : ¬ (t : Int) < (ms.length : Int) := by omega
      subst hkl
      rw [List.take_length] at *
      generalize hss : szs ms = S at *
      have HS := Lib.hid hss
      clear hss
      have hMr := (hbr.block M hML).trans hM2
      have hbf := hb1.trans (hbr.mono (Nat.le_of_lt hML))
      haveI : Nonempty (Ext wr) := ⟨⟨wr, Below.refl _ _⟩⟩
      have hMlr : M < wr.heap.size := Nat.lt_of_lt_of_le hML hbr.size
      have y0 : ∀ x : Ext wr, x.val.cell? ⟨M, 0, none⟩ = some (.slice ap a.length ac) := fun x => by rw [Lib.cell_of_heap ((x.beyond.block M hMlr).trans hMr)]; rfl
      have y1 : ∀ x : Ext wr, x.val.cell? ⟨M, 1, none⟩ = some (.slice bp b.length bc) := fun x => by rw [Lib.cell_of_heap ((x.beyond.block M hMlr).trans hMr)]; rfl
      have hw : IntKind.i64.wrap ((a.length : Int) + (b.length : Int)) = (a.length : Int) + (b.length : Int) := IntWalk.i64_in _ ⟨by omega, by omega⟩
      have HC : Hid (∀ x : Ext wr, Calls Try.prog 55 #[.int .i64 (S : Int), .int .i64 ((a.length : Int) + (b.length : Int))] x.val fun e w' => e = .returned (.float .f64 (ratV S (a.length + b.length))) ∧ ∃ y : Ext wr, w' = y.val) := Lib.hid (fun x => by
        have := calcRatio S (a.length + b.length) (by omega) (by omega) x.val
        rw [Int.natCast_add] at this
        exact this.mono fun e w' h => ⟨h.1, x, h.2⟩)
      have HMR := Lib.hid hMr
      have HBF := Lib.hid hbf
      clear hMr hbf
      go_upto_region 7 with fail
      refine wp_region_ext (Below.refl _ wr) (by kernel_rfl) (by kernel_rfl) ?_
      repeat (go_big_quiet_step (exact HC.out _))
      refine wpQuiet_nil ?_
      rintro w6 ⟨⟨_, hb6⟩, rfl⟩
      go_wp2_with fail
      go_ret
      exact ⟨by rw [HGM.out, HS.out]; rfl, ⟨_, (hb6.block M hMlr).trans HMR.out⟩, HBF.out.trans (hb6.mono (Nat.le_of_lt hMlr))⟩
end Go.Proofs.Ytkbppaddghfgpaa
