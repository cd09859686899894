/- The matcher of lists of any length. -/
import Derived.Test.YtkbppaddghfgpaaDoorDif20D
set_option linter.unusedVariables false
set_option linter.unusedSimpArgs false
namespace Go.Proofs.YtkbppaddghfgpaaDoor
open Go.RowKit Go.Maps

theorem ChainG.ontoG {M : Nat} {av bv bl op : Value} {bs : List ByteArray} {w w1 w' : World} (h : ChainG M av bv bl op bs w1 w') (hb : Below M w w1) : ChainG M av bv bl op bs w w' := ⟨hb.trans h.1, h.2⟩
theorem ChainG.mem0 {M : Nat} {av bv : Value} {a b : List ByteArray} {w w' : World} (h : ChainG M av bv (.slice none 0 0) (.slice none 0 0) b w w') (ha : RdC Value.string w' av a) (hb : RdC Value.string w' bv b) :
    Mem0 w' M a b (b2jL b) ∧ (∀ v j, j ∈ b2jL b v → b[j]? = some v) := by
  obtain ⟨_, jv, ju, pv, hm, hl, hj⟩ := h
  exact ⟨⟨av, bv, jv, ju, pv, hm, hl, hj, ha, hb⟩, fun v j h => b2j_mem b h⟩

set_option maxHeartbeats 3200000 in
set_option maxRecDepth 100000 in
theorem setSeq2G {M : Nat} {av bv j0 ju bl po op : Value} (v : Value) (bs : List ByteArray) (w : World) (hm : Mat w M av bv j0 ju bl po op) (hv : RdC Value.string w v bs) (hM : ∀ w', Below M w w' → RdC Value.string w' v bs)
    (hl : bs.length ≤ 2147483647) (hsz : ∀ s ∈ bs, s.size ≤ maxLen) :
    Calls Tryd.prog 32 #[.pointer (some ⟨M, 0, none⟩), v] w fun e w' => e = .returned (.tuple #[]) ∧ ChainG M av v (.slice none 0 0) (.slice none 0 0) bs w w' := by
  have HSZ := Lib.hid hsz
  obtain ⟨a, c, _, _, hve, _⟩ := hv
  have HM := Lib.hid hM
  clear hsz hM
  have hML := hm.lt
  have q1 : w.cell? ⟨M, 1, none⟩ = some bv := by rw [Lib.cell_of_heap hm]; rfl
  have q6 : w.cell? ⟨M, 6, none⟩ = some bl := by rw [Lib.cell_of_heap hm]; rfl
  have q7 : w.cell? ⟨M, 7, none⟩ = some (.map none) := by rw [Lib.cell_of_heap hm]; rfl
  have q9 : w.cell? ⟨M, 9, none⟩ = some op := by rw [Lib.cell_of_heap hm]; rfl
  have e1 : w.frozen? ⟨M, 1, none⟩ = false := by simp [World.frozen?, show w.heap[M]? = _ from hm]
  have e6 : w.frozen? ⟨M, 6, none⟩ = false := by simp [World.frozen?, show w.heap[M]? = _ from hm]
  have e7 : w.frozen? ⟨M, 7, none⟩ = false := by simp [World.frozen?, show w.heap[M]? = _ from hm]
  have e9 : w.frozen? ⟨M, 9, none⟩ = false := by simp [World.frozen?, show w.heap[M]? = _ from hm]
  subst hve
  have hne := not_there hm (.slice a bs.length c) 1
  have hm4 := (((hm.set1 (.slice a bs.length c)).set6 (.slice none 0 0)).set9 (.slice none 0 0)).set7
  have hsc : ((((w.setCell ⟨M, 1, none⟩ (.slice a bs.length c)).setCell ⟨M, 6, none⟩ (.slice none 0 0)).setCell ⟨M, 9, none⟩ (.slice none 0 0)).setCell ⟨M, 7, none⟩ (.map none)).heap.size = w.heap.size := by simp [World.setCell]
  have hb4 : Below M w (((((w.setCell ⟨M, 1, none⟩ (.slice a bs.length c)).setCell ⟨M, 6, none⟩ (.slice none 0 0)).setCell ⟨M, 9, none⟩ (.slice none 0 0)).setCell ⟨M, 7, none⟩ (.map none)).alloc (.cells #[.slice a bs.length c] 22)) :=
    (((((Below.refl M w).setCell (p := ⟨M, 1, none⟩) (Nat.le_refl M) _).setCell (p := ⟨M, 6, none⟩) (Nat.le_refl M) _).setCell (p := ⟨M, 9, none⟩) (Nat.le_refl M) _).setCell (p := ⟨M, 7, none⟩) (Nat.le_refl M) _).alloc (by omega) _
  have hm5 : Mat (((((w.setCell ⟨M, 1, none⟩ (.slice a bs.length c)).setCell ⟨M, 6, none⟩ (.slice none 0 0)).setCell ⟨M, 9, none⟩ (.slice none 0 0)).setCell ⟨M, 7, none⟩ (.map none)).alloc (.cells #[.slice a bs.length c] 22)) M _ _ _ _ _ _ _ := (Below.heap_alloc _ _ M (by omega)).trans hm4
  go_enter Tryd.func32, Tryd.ntmps32
  go_wp2_with (go_at_call 37; go_must (refine (chainB_all M _ _ _ _ _ _ _ bs _ hm5 (HM.out _ hb4) hl HSZ.out).mono ?_))
  rintro e w5 ⟨rfl, hC⟩
  go_wp2_with fail
  go_end0
  exact ⟨rfl, hC.ontoG hb4⟩

set_option maxHeartbeats 3200000 in
set_option maxRecDepth 100000 in
theorem setSeqsG {M : Nat} {av bv j0 ju bl po op : Value} (v1 v2 : Value) (xs bs : List ByteArray) (w : World) (hm : Mat w M av bv j0 ju bl po op) (hv1 : RdC Value.string w v1 xs) (hM : ∀ w', Below M w w' → RdC Value.string w' v2 bs)
    (hl : bs.length ≤ 2147483647) (hsz : ∀ s ∈ bs, s.size ≤ maxLen) :
    Calls Tryd.prog 24 #[.pointer (some ⟨M, 0, none⟩), v1, v2] w fun e w' => e = .returned (.tuple #[]) ∧ ChainG M v1 v2 (.slice none 0 0) (.slice none 0 0) bs w w' := by
  have HSZ := Lib.hid hsz
  have HM := Lib.hid hM
  have HV := Lib.hid (show ∃ a l c, v1 = .slice a l c from by obtain ⟨a, c, _, _, hve, _⟩ := hv1; exact ⟨a, _, c, hve⟩)
  clear hsz hM hv1
  go_enter Tryd.func24, Tryd.ntmps24
  go_wp2_with (go_at_call 31; go_must (refine (setSeq1 _ _ hm HV.out).mono ?_))
  rintro e w1 ⟨rfl, hb1, hm1⟩
  go_wp2_with (go_at_call 32; go_must (refine (setSeq2G _ bs _ hm1 (HM.out _ hb1) (fun w' h => HM.out _ (hb1.trans h)) hl HSZ.out).mono ?_))
  rintro e w2 ⟨rfl, hC⟩
  go_wp2_with fail
  go_end0
  exact ⟨rfl, hC.ontoG hb1⟩

set_option maxHeartbeats 3200000 in
set_option maxRecDepth 100000 in
theorem newMatcherG (v1 v2 : Value) (xs bs : List ByteArray) (w : World) (hv1 : RdC Value.string w v1 xs) (hv2 : RdC Value.string w v2 bs)
    (hl : bs.length ≤ 2147483647) (hsz : ∀ s ∈ bs, s.size ≤ maxLen) :
    Calls Tryd.prog 17 #[v1, v2] w fun e w' => e = .returned (.pointer (some ⟨w.heap.size, 0, none⟩)) ∧ ChainG w.heap.size v1 v2 (.slice none 0 0) (.slice none 0 0) bs w w' := by
  have HSZ := Lib.hid hsz
  have HV1 := Lib.hid hv1
  have HV2 := Lib.hid hv2
  clear hsz hv1 hv2
  have HB : ∀ o, Below w.heap.size w (w.alloc o) := fun o => (Below.refl _ w).alloc (Nat.le_refl _) o
  have HN : ∀ o, (w.alloc o).heap[w.heap.size]? = some o := fun o => heap_alloc_new w o
  go_enter Tryd.func17, Tryd.ntmps17
  go_wp2_with (go_at_call 24; go_must (refine (setSeqsG _ _ xs bs _ (HN _) (HV1.out.below (HB _)) (fun w' h => HV2.out.below ((HB _).trans h)) hl HSZ.out).mono ?_))
  rintro e w2 ⟨rfl, hC⟩
  go_wp2_with fail
  go_ret
  exact ⟨rfl, hC.ontoG (HB _)⟩

set_option maxHeartbeats 3200000 in
set_option maxRecDepth 100000 in
theorem implEditsG (v1 v2 : Value) (a b : List ByteArray) (w : World) (hv1 : RdC Value.string w v1 a) (hv2 : RdC Value.string w v2 b)
    (hla : a.length ≤ 2147483647) (hlb : b.length ≤ 2147483647) (hsa : ∀ s ∈ a, s.size ≤ maxLen) (hsb : ∀ s ∈ b, s.size ≤ maxLen) :
    Calls Tryd.prog 10 #[v1, v2] w fun e w' => (∃ v, e = .returned v ∧ RdF w' v (edits (gmb a b (b2jL b)))) ∧ Below w.heap.size w w' := by
  have HSA := Lib.hid hsa
  have HSB := Lib.hid hsb
  have HV1 := Lib.hid hv1
  have HV2 := Lib.hid hv2
  clear hsa hsb hv1 hv2
  go_enter Tryd.func10, Tryd.ntmps10
  go_wp2_with (go_at_call 17; go_must (refine (newMatcherG v1 v2 a b w HV1.out HV2.out hlb HSB.out).mono ?_))
  rintro e w1 ⟨rfl, hC⟩
  have hb1 := hC.1
  obtain ⟨hm0, hL⟩ := hC.mem0 (HV1.out.below hb1) (HV2.out.below hb1)
  have HM := Lib.hid hm0
  have HL := Lib.hid hL
  clear hC hm0 hL
  go_wp2_with (go_at_call 18; go_must (refine (opCodes_any w1 HM.out HL.out hla hlb HSA.out HSB.out).mono ?_))
  rintro e w2 ⟨⟨ov, rfl, hrd⟩, hb2⟩
  have hb12 := hb1.trans hb2
  have HRD := Lib.hid hrd
  have hlen := edits_len (a := a) HL.out hla
  have hsh : ∃ a l c, ov = .slice a l c := by obtain ⟨x, y, _, _, h, _⟩ := hrd; exact ⟨x, _, y, h⟩
  clear hrd hb1 hb2
  go_wp2_with (go_at_call 16; go_must (refine (implEdits1 ov _ w2 HRD.out hlen).mono ?_))
  rintro e w3 ⟨⟨v, rfl, hr⟩, hb3⟩
  have HR := Lib.hid hr
  clear hr
  go_wp2_with fail
  go_ret
  exact ⟨⟨_, rfl, HR.out⟩, hb12.trans (hb3.mono hb12.size)⟩

end Go.Proofs.YtkbppaddghfgpaaDoor
