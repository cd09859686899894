/- The small functions of the matcher: SetSeq1, SetSeq2, SetSeqs, NewMatcher, isBJunk. -/
import Derived.Test.YtkbppaddghfgpaaDoorDif4
import Derived.LaidEqlPtr
import Derived.Laws.EntriesVeiled
import Derived.Deep.DeepMust
set_option linter.unusedVariables false
set_option linter.unusedSimpArgs false
namespace Go.Proofs.YtkbppaddghfgpaaDoor
open Go.RowKit Go.Maps

theorem info_strs : (Tryd.prog.info? 22).map (fun i => (i.zero, i.size, i.bytes)) = some (some (.slice none 0 0), 1, 24) := by kernel_rfl
theorem not_there {M : Nat} {w : World} {av bv j0 ju bl po op : Value} (hm : Mat w M av bv j0 ju bl po op) (v : Value) (i : Nat) :
    (binOp .eql 82 (.pointer (some ⟨w.heap.size, 0, none⟩)) (.pointer (some ⟨M, i, none⟩))).run Tryd.prog (w.alloc (.cells #[v] 22)) = .ok (.bool false) (w.alloc (.cells #[v] 22)) := by
  obtain ⟨i0, hi, _, hz1, _⟩ := info_parts info_strs
  have hML := hm.lt
  exact run_eql_ptr_other (w := w.alloc (.cells #[v] 22)) (a := ⟨w.heap.size, 0, none⟩) (b := ⟨M, i, none⟩) Tryd.underlying82 hi (by rw [hz1]; decide) (fun h => by injection h; omega) (heap_alloc_new w _) ((Below.heap_alloc w _ M hML).trans hm)

set_option maxHeartbeats 3200000 in
set_option maxRecDepth 100000 in
theorem setSeq1 {M : Nat} {av bv j0 ju bl po op : Value} (v : Value) (w : World) (hm : Mat w M av bv j0 ju bl po op) (hv : ∃ a l c, v = .slice a l c) :
    Calls Tryd.prog 31 #[.pointer (some ⟨M, 0, none⟩), v] w fun e w' => e = .returned (.tuple #[]) ∧ Below M w w' ∧ Mat w' M v bv j0 ju (.slice none 0 0) po (.slice none 0 0) := by
  obtain ⟨a, l, c, rfl⟩ := hv
  have hML := hm.lt
  have q0 : w.cell? ⟨M, 0, none⟩ = some av := by rw [Lib.cell_of_heap hm]; rfl
  have q6 : w.cell? ⟨M, 6, none⟩ = some bl := by rw [Lib.cell_of_heap hm]; rfl
  have q9 : w.cell? ⟨M, 9, none⟩ = some op := by rw [Lib.cell_of_heap hm]; rfl
  have e0 : w.frozen? ⟨M, 0, none⟩ = false := by simp [World.frozen?, show w.heap[M]? = _ from hm]
  have e6 : w.frozen? ⟨M, 6, none⟩ = false := by simp [World.frozen?, show w.heap[M]? = _ from hm]
  have e9 : w.frozen? ⟨M, 9, none⟩ = false := by simp [World.frozen?, show w.heap[M]? = _ from hm]
  have hne := not_there hm (.slice a l c) 0
  go_enter Tryd.func31, Tryd.ntmps31
  go_wp2_with fail
  go_end0
  have hsc : (((w.setCell ⟨M, 0, none⟩ (.slice a l c)).setCell ⟨M, 6, none⟩ (.slice none 0 0)).setCell ⟨M, 9, none⟩ (.slice none 0 0)).heap.size = w.heap.size := by simp [World.setCell]
  refine ⟨rfl, ((((Below.refl M w).setCell (p := ⟨M, 0, none⟩) (Nat.le_refl M) _).setCell (p := ⟨M, 6, none⟩) (Nat.le_refl M) _).setCell (p := ⟨M, 9, none⟩) (Nat.le_refl M) _).alloc (by omega) _, ?_⟩
  exact (Below.heap_alloc _ _ M (by omega)).trans (((hm.set0 _).set6 _).set9 _)

theorem ChainB.onto {M : Nat} {av bv bl op : Value} {bs : List ByteArray} {w w1 w' : World} (h : ChainB M av bv bl op bs w1 w') (hb : Below M w w1) : ChainB M av bv bl op bs w w' := ⟨hb.trans h.1, h.2⟩

set_option maxHeartbeats 3200000 in
set_option maxRecDepth 100000 in
theorem setSeq2 {M : Nat} {av bv j0 ju bl po op : Value} (v : Value) (bs : List ByteArray) (w : World) (hm : Mat w M av bv j0 ju bl po op) (hv : RdC Value.string w v bs) (hM : ∀ w', Below M w w' → RdC Value.string w' v bs)
    (hl : bs.length ≤ 2147483647) (hsz : ∀ s ∈ bs, s.size ≤ maxLen) (hsm : bs.length < 200) :
    Calls Tryd.prog 32 #[.pointer (some ⟨M, 0, none⟩), v] w fun e w' => e = .returned (.tuple #[]) ∧ ChainB M av v (.slice none 0 0) (.slice none 0 0) bs w w' := by
  have HSZ := Lib.hid hsz
  obtain ⟨a, c, _, _, hve, _⟩ := hv
  have HM := Lib.hid hM
  clear hsz hM
  have hML := hm.lt
  have q1 : w.cell? ⟨M, 1, none⟩ = some bv := by rw [Lib.cell_of_heap hm]; rfl
  have q6 : w.cell? ⟨M, 6, none⟩ = some bl := by rw [Lib.cell_of_heap hm]; rfl
  have q7 : w.cell? ⟨M, 7, none⟩ = some (.map none) := by rw [Lib.cell_of_heap hm]; rfl
  have q9 : w.cell? ⟨M, 9, none⟩ = some op := by rw [Lib.cell_of_heap hm]; rfl
  have e1 : w.frozen? ⟨M, 1, none⟩ = false := by simp [World.frozen?, show w.heap[M]? = _ from hm]
  have e6 : w.frozen? ⟨M, 6, none⟩ = false := by simp [World.frozen?, show w.heap[M]? = _ from hm]
  have e7 : w.frozen? ⟨M, 7, none⟩ = false := by simp [World.frozen?, show w.heap[M]? = _ from hm]
  have e9 : w.frozen? ⟨M, 9, none⟩ = false := by simp [World.frozen?, show w.heap[M]? = _ from hm]
  subst hve
  have hne := not_there hm (.slice a bs.length c) 1
  have hm4 := (((hm.set1 (.slice a bs.length c)).set6 (.slice none 0 0)).set9 (.slice none 0 0)).set7
  have hsc : ((((w.setCell ⟨M, 1, none⟩ (.slice a bs.length c)).setCell ⟨M, 6, none⟩ (.slice none 0 0)).setCell ⟨M, 9, none⟩ (.slice none 0 0)).setCell ⟨M, 7, none⟩ (.map none)).heap.size = w.heap.size := by simp [World.setCell]
  have hb4 : Below M w (((((w.setCell ⟨M, 1, none⟩ (.slice a bs.length c)).setCell ⟨M, 6, none⟩ (.slice none 0 0)).setCell ⟨M, 9, none⟩ (.slice none 0 0)).setCell ⟨M, 7, none⟩ (.map none)).alloc (.cells #[.slice a bs.length c] 22)) :=
    (((((Below.refl M w).setCell (p := ⟨M, 1, none⟩) (Nat.le_refl M) _).setCell (p := ⟨M, 6, none⟩) (Nat.le_refl M) _).setCell (p := ⟨M, 9, none⟩) (Nat.le_refl M) _).setCell (p := ⟨M, 7, none⟩) (Nat.le_refl M) _).alloc (by omega) _
  have hm5 : Mat (((((w.setCell ⟨M, 1, none⟩ (.slice a bs.length c)).setCell ⟨M, 6, none⟩ (.slice none 0 0)).setCell ⟨M, 9, none⟩ (.slice none 0 0)).setCell ⟨M, 7, none⟩ (.map none)).alloc (.cells #[.slice a bs.length c] 22)) M _ _ _ _ _ _ _ := (Below.heap_alloc _ _ M (by omega)).trans hm4
  go_enter Tryd.func32, Tryd.ntmps32
  go_wp2_with (go_at_call 37; go_must (refine (chainB_any M _ _ _ _ _ _ _ bs _ hm5 (HM.out _ hb4) hl HSZ.out hsm).mono ?_))
  rintro e w5 ⟨rfl, hC⟩
  go_wp2_with fail
  go_end0
  exact ⟨rfl, hC.onto hb4⟩

set_option maxHeartbeats 3200000 in
set_option maxRecDepth 100000 in
theorem setSeqs {M : Nat} {av bv j0 ju bl po op : Value} (v1 v2 : Value) (xs bs : List ByteArray) (w : World) (hm : Mat w M av bv j0 ju bl po op) (hv1 : RdC Value.string w v1 xs) (hM : ∀ w', Below M w w' → RdC Value.string w' v2 bs)
    (hl : bs.length ≤ 2147483647) (hsz : ∀ s ∈ bs, s.size ≤ maxLen) (hsm : bs.length < 200) :
    Calls Tryd.prog 24 #[.pointer (some ⟨M, 0, none⟩), v1, v2] w fun e w' => e = .returned (.tuple #[]) ∧ ChainB M v1 v2 (.slice none 0 0) (.slice none 0 0) bs w w' := by
  have HSZ := Lib.hid hsz
  have HM := Lib.hid hM
  have HV := Lib.hid (show ∃ a l c, v1 = .slice a l c from by obtain ⟨a, c, _, _, hve, _⟩ := hv1; exact ⟨a, _, c, hve⟩)
  clear hsz hM hv1
  go_enter Tryd.func24, Tryd.ntmps24
  go_wp2_with (go_at_call 31; go_must (refine (setSeq1 _ _ hm HV.out).mono ?_))
  rintro e w1 ⟨rfl, hb1, hm1⟩
  go_wp2_with (go_at_call 32; go_must (refine (setSeq2 _ bs _ hm1 (HM.out _ hb1) (fun w' h => HM.out _ (hb1.trans h)) hl HSZ.out hsm).mono ?_))
  rintro e w2 ⟨rfl, hC⟩
  go_wp2_with fail
  go_end0
  exact ⟨rfl, hC.onto hb1⟩

set_option maxHeartbeats 3200000 in
set_option maxRecDepth 100000 in
theorem newMatcher (v1 v2 : Value) (xs bs : List ByteArray) (w : World) (hv1 : RdC Value.string w v1 xs) (hv2 : RdC Value.string w v2 bs)
    (hl : bs.length ≤ 2147483647) (hsz : ∀ s ∈ bs, s.size ≤ maxLen) (hsm : bs.length < 200) :
    Calls Tryd.prog 17 #[v1, v2] w fun e w' => e = .returned (.pointer (some ⟨w.heap.size, 0, none⟩)) ∧ ChainB w.heap.size v1 v2 (.slice none 0 0) (.slice none 0 0) bs w w' := by
  have HSZ := Lib.hid hsz
  have HV1 := Lib.hid hv1
  have HV2 := Lib.hid hv2
  clear hsz hv1 hv2
  have HB : ∀ o, Below w.heap.size w (w.alloc o) := fun o => (Below.refl _ w).alloc (Nat.le_refl _) o
  have HN : ∀ o, (w.alloc o).heap[w.heap.size]? = some o := fun o => heap_alloc_new w o
  go_enter Tryd.func17, Tryd.ntmps17
  go_wp2_with (go_at_call 24; go_must (refine (setSeqs _ _ xs bs _ (HN _) (HV1.out.below (HB _)) (fun w' h => HV2.out.below ((HB _).trans h)) hl HSZ.out hsm).mono ?_))
  rintro e w2 ⟨rfl, hC⟩
  go_wp2_with fail
  go_ret
  exact ⟨rfl, hC.onto (HB _)⟩

theorem junk_looks {w : World} {ju : Nat} (h : w.heap[ju]? = some (.map #[] 0)) (s : ByteArray) (hs : s.size ≤ maxLen) :
    (Instr.lookup 65 (.map (some ju)) (.string s) true).run Tryd.prog w = .ok (.tuple #[.agg #[], .bool false]) w := by
  have hown : w.ownsMap (H := Unit) Tryd.prog 9 unitElem ju 0 (.map []) := ⟨#[], 0, h, ⟨by simp, MapKept.stamped_empty 0, by simp⟩, Nat.le_refl _, rfl⟩
  obtain ⟨v, ps, hrun, hv⟩ := hown.look_ok lawS Tryd.underlying65 (z := .agg #[]) (zd := .agg []) (by kernel_rfl) unitElem_mk (WideMaps.keyOf_string_mk Tryd.underlying9 hs)
  obtain ⟨rfl, _⟩ := unitElem_inv hv
  exact hrun

set_option maxHeartbeats 3200000 in
set_option maxRecDepth 100000 in
theorem notJunk {M ju : Nat} {av bv j0 bl po op : Value} (s : ByteArray) (w : World) (hm : Mat w M av bv j0 (.map (some ju)) bl po op) (hj : w.heap[ju]? = some (.map #[] 0)) (hs : s.size ≤ maxLen) :
    Calls Tryd.prog 38 #[.pointer (some ⟨M, 0, none⟩), .string s] w fun e w' => e = .returned (.bool false) ∧ Below w.heap.size w w' := by
  have q5 : w.cell? ⟨M, 5, none⟩ = some (.map (some ju)) := by rw [Lib.cell_of_heap hm]; rfl
  have hlk := junk_looks hj s hs
  go_enter Tryd.func38, Tryd.ntmps38
  go_wp2_with fail
  go_ret
  exact ⟨rfl, (Below.refl _ w).alloc (Nat.le_refl _) _⟩
end Go.Proofs.YtkbppaddghfgpaaDoor
