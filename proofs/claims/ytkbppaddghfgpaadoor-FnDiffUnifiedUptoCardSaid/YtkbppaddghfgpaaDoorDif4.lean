/- chainB, the first loop. (under way) -/
import Derived.Test.YtkbppaddghfgpaaDoorDif3
import Derived.Test.YtkbppaddghfgpaaDoorDifP
import Derived.Deep.Cut
set_option linter.unusedVariables false
set_option linter.unusedSimpArgs false
namespace Go.Proofs.YtkbppaddghfgpaaDoor
open Go.RowKit Go.Maps
open Go.ChangeShapes (lits)

/-- What chainB leaves: the block, its map and its empty set of junk; the map answers with the places, or (in long lists) with nothing. -/
def ChainB (M : Nat) (av bv bl op : Value) (bs : List ByteArray) (w w' : World) : Prop :=
  Below M w w' ∧ ∃ jv ju pv L, Mat w' M av bv jv (.map (some ju)) bl pv op ∧ Looks w' jv L ∧ w'.heap[ju]? = some (.map #[] 0) ∧ (∀ s j, j ∈ L s → bs[j]? = some s) ∧ (bs.length < 200 → ∀ s, L s = idxL bs s)

theorem chain_end {M N J n : Nat} {av bv j0 bl p0 op pv : Value} {bs : List ByteArray} {w wr w1 : World} {D : DataW Unit} (L : ByteArray → List Nat) (hb1 : Below M w w1) (hm1 : Mat w1 M av bv j0 (.map (some J)) bl p0 op) (hJ : w1.heap[J]? = some (.map #[] 0))
    (hown : w1.ownsMap Tryd.prog 9 (rowElem wr (N + 1) 3 .i64) N n D) (hk1 : ∀ i, N + 1 ≤ i → i < wr.heap.size → w1.heap[i]? = wr.heap[i]?) (hs1 : wr.heap.size ≤ w1.heap.size) (hMN : M < N) (hMJ : M < J)
    (hD : ∀ s, D.atKey (keyL s) .nil = ixD (L s)) (hL : ∀ s j, j ∈ L s → bs[j]? = some s) (hL2 : bs.length < 200 → ∀ s, L s = idxL bs s) :
    ChainB M av bv bl op bs w ((w1.setCell ⟨M, 8, none⟩ pv).setCell ⟨M, 2, none⟩ (.map (some N))) := by
  have hsc : ((w1.setCell ⟨M, 8, none⟩ pv).setCell ⟨M, 2, none⟩ (.map (some N))).heap.size = w1.heap.size := by simp [World.setCell]
  refine ⟨(hb1.setCell (p := ⟨M, 8, none⟩) (Nat.le_refl M) _).setCell (p := ⟨M, 2, none⟩) (Nat.le_refl M) _, _, J, pv, L, (hm1.set8 pv).set2 _, ?_, ?_, hL, hL2⟩
  · refine looks_of (w3 := wr) (base := N + 1) ((hown.setCell (by simp; omega) _).setCell (by simp; omega) _) (fun i h1 h2 => ?_) (by omega) hD
    rw [Below.heap_setCell _ _ _ _ (by simp; omega), Below.heap_setCell _ _ _ _ (by simp; omega)]
    exact hk1 i h1 h2
  · rw [Below.heap_setCell _ _ _ _ (by simp; omega), Below.heap_setCell _ _ _ _ (by simp; omega)]
    exact hJ
theorem ChainB.alloc {M : Nat} {av bv bl op : Value} {bs : List ByteArray} {w w' : World} (h : ChainB M av bv bl op bs w w') (o : Obj) : ChainB M av bv bl op bs w (w'.alloc o) := by
  obtain ⟨hb, jv, ju, pv, L, hm, hl, hj, h1, h2⟩ := h
  have hx : Below w'.heap.size w' (w'.alloc o) := (Below.refl _ _).alloc (Nat.le_refl _) o
  exact ⟨hb.alloc (Nat.le_trans (Nat.le_of_lt hm.lt) (Nat.le_refl _)) o, jv, ju, pv, L, hm.below hx hm.lt, hl.below hx, (hx.block ju (Array.getElem?_eq_some_iff.1 hj).1).trans hj, h1, h2⟩

set_option maxHeartbeats 3200000 in
set_option maxRecDepth 100000 in
theorem chainB_any (M : Nat) (av ov j0 m0 p0 bl op : Value) (bs : List ByteArray) (w : World) (hm : Mat w M av ov j0 m0 bl p0 op) (hov : RdC Value.string w ov bs) (hl : bs.length ≤ 2147483647) (hsz : ∀ s ∈ bs, s.size ≤ maxLen) (hsm : bs.length < 200) :
    Calls Tryd.prog 37 #[.pointer (some ⟨M, 0, none⟩)] w fun e w' => e = .returned (.tuple #[]) ∧ ChainB M av ov bl op bs w w' := by
  obtain ⟨a, cap, b, off, rfl, hcap, hmx, ha, hc⟩ := hov
  unfold maxLen at hmx
  have hmm := @run_makeMap Tryd.prog
  obtain ⟨i0, hi, hz0, hz1, hz2⟩ := info_parts info_i64
  have hML : M < w.heap.size := (Array.getElem?_eq_some_iff.1 hm).1
  have k1 : w.cell? ⟨M, 1, none⟩ = some (.slice a bs.length cap) := by rw [Lib.cell_of_heap hm]; rfl
  go_enter Tryd.func37, Tryd.ntmps37
  go_wp2_with fail
  go_loopw [21] (fun i wr => ∃ k : Nat, k ≤ bs.length ∧ i = .int .i64 k ∧ wr.ownsGroups Tryd.prog 9 (w.heap.size + 1) 3 .i64 w.heap.size k (gD (H := Unit) bs k) ∧ Below w.heap.size w wr ∧ w.heap.size + 1 ≤ wr.heap.size)
    (fun i _ => bs.length - (intOf i).toNat)
  case atStart => exact ⟨0, Nat.zero_le _, rfl, World.ownsGroups_made _ _ _ _ _, (Below.refl _ _).alloc (Nat.le_refl _) _, by simp⟩
  case round =>
    obtain ⟨k, hk, rfl, hown, hnx, hws⟩ := hrel
    by_cases hlt : k < bs.length
    · obtain rfl : a = some ⟨b, off, none⟩ := by
        rcases ha with h | h
        · rw [h] at hlt; exact absurd hlt (Nat.not_lt_zero _)
        · exact h
      have c1 := hc k bs[k] (List.getElem?_eq_getElem hlt)
      have c1' : wr.cell? ⟨b, off + k, none⟩ = some (.string bs[k]) := (hnx.cell (p := ⟨b, off + k, none⟩) (World.block_lt_of_cell? w _ c1)).trans c1
      have hkey : keyOf Tryd.prog 9 (.string bs[k]) = some (keyL bs[k]) := WideMaps.keyOf_string_mk Tryd.underlying9 (hsz _ (List.getElem_mem hlt))
      have HG := Lib.hid (fun (v : Value) (zs : List Int) (ho : wr.ownsInts (w.heap.size + 1) 3 .i64 v zs) (hat : (gD (H := Unit) bs k).atKey (keyL bs[k]) .nil = rowDatum .i64 v zs) => gD_step bs k hlt ho hat)
      clear c1 hc
      generalize bs[k] = s at *
      go_wp2_with (first
        | (at_lookup; refine wpList_lookup_groups _ rfl _ _ 64 rfl 9 84 3 .i64 lawS Tryd.underlying64 (zeroInts _) (w.heap.size + 1) w.heap.size k _ rfl hown (by unfold maxLen; omega) _ _ rfl hkey ?_; intro v zs hat hoi hzl hback)
        | (at_builtin; refine wpList_append_own_at _ rfl _ _ 84 rfl (w.heap.size + 1) 3 i0 (.int .i64 0) 1 8 Tryd.underlying84 hi hz0 hz1 hz2 rfl (by decide) _ _ _ rfl (hoi.1.alloc _) ⟨wr.heap.size, 0, none⟩ 1 1 [.int .i64 k] rfl rfl (cell_one_new _ _ _) (ints_oneCell .i64 [(k : Int)]) (by unfold maxLen; omega) (by omega) (by simp; omega) ?_; intro v' w1 hown' hgrow hnil hloc)
        | (at_mapUpdate; refine wpList_mapUpdate_back _ rfl _ _ _ 64 rfl hback rfl rfl rfl ((World.grownBy_alloc _ _ _).trans hgrow) (hoi.appended hown' (WalkArith.wf_i64 (by omega))) (by simp; omega) (hloc.imp id (fun h => ⟨_, h, by simp⟩)) ?_; intro w2 hown2 hgrow2))
      have hall := (World.grownBy_alloc wr _ _).trans hgrow
      go_roundw
      case rel =>
        refine ⟨k + 1, by omega, by go_num, ?_, hnx.groups hoi hall hgrow2 hnx.size (Nat.le_succ _) (Nat.le_refl _), Nat.le_trans hws (Nat.le_trans hall.size hgrow2.size)⟩
        rw [HG.out v zs hoi hat, ← (hoi.appended hown' (WalkArith.wf_i64 (by omega))).datum_pos (by simp)]
        exact hown2
      case measure => simp [intOf]; omega
    · have hk2 : k = bs.length := by omega
      subst hk2
      have k0 : wr.cell? ⟨M, 1, none⟩ = some (.slice a bs.length cap) := (hnx.cell (p := ⟨M, 1, none⟩) hML).trans k1
      have hmw : Mat wr M (av) (.slice a bs.length cap) j0 m0 bl p0 op := (hnx.block M hML).trans hm
      have hm2 : M < wr.heap.size := by omega
      have hmw2 : Mat (wr.alloc (.map #[] 0)) M (av) (.slice a bs.length cap) j0 m0 bl p0 op := (Below.heap_alloc wr _ M hm2).trans hmw
      have f5 : (wr.alloc (.map #[] 0)).frozen? ⟨M, 5, none⟩ = false := by simp [World.frozen?, show (wr.alloc (.map #[] 0)).heap[M]? = _ from hmw2]
      clear hc
      have k5 : wr.cell? ⟨M, 5, none⟩ = some m0 := by rw [Lib.cell_of_heap hmw]; rfl
      go_upto_region 9 with fail
      have hb1 : Below M w ((wr.setCell ⟨M, 5, none⟩ (.map (some wr.heap.size))).alloc (.map #[] 0)) := ((hnx.mono (Nat.le_of_lt hML)).setCell (p := ⟨M, 5, none⟩) (Nat.le_refl M) _).alloc (by simp [World.setCell]; omega) _
      have hsc : (wr.setCell ⟨M, 5, none⟩ (.map (some wr.heap.size))).heap.size = wr.heap.size := by simp [World.setCell]
      have hm1 : Mat ((wr.setCell ⟨M, 5, none⟩ (.map (some wr.heap.size))).alloc (.map #[] 0)) M av (.slice a bs.length cap) j0 (.map (some wr.heap.size)) bl p0 op := (Below.heap_alloc _ _ M (by rw [hsc]; omega)).trans (hmw.set5 _)
      have hJ : ((wr.setCell ⟨M, 5, none⟩ (.map (some wr.heap.size))).alloc (.map #[] 0)).heap[wr.heap.size]? = some (.map #[] 0) := by have h := heap_alloc_new (wr.setCell ⟨M, 5, none⟩ (.map (some wr.heap.size))) (.map #[] 0); rw [hsc] at h; exact h
      have hown1 : ((wr.setCell ⟨M, 5, none⟩ (.map (some wr.heap.size))).alloc (.map #[] 0)).ownsMap (H := Unit) Tryd.prog 9 (rowElem wr (w.heap.size + 1) 3 .i64) w.heap.size bs.length (gD bs bs.length) := by
        obtain ⟨es, clock, g1, g2, g3, g4, _⟩ := hown
        exact World.ownsMap.alloc (World.ownsMap.setCell ⟨es, clock, g1, g2, g3, g4⟩ (by simp; omega) _) _
      have hk1 : ∀ i, w.heap.size + 1 ≤ i → i < wr.heap.size → ((wr.setCell ⟨M, 5, none⟩ (.map (some wr.heap.size))).alloc (.map #[] 0)).heap[i]? = wr.heap[i]? := fun i h1 h2 => (Below.heap_alloc _ _ i (by rw [hsc]; omega)).trans (Below.heap_setCell _ _ _ _ (by simp; omega))
      have hs1 : ((wr.setCell ⟨M, 5, none⟩ (.map (some wr.heap.size))).alloc (.map #[] 0)).heap.size = wr.heap.size + 1 := by simp [hsc]
      generalize (wr.setCell ⟨M, 5, none⟩ (.map (some wr.heap.size))).alloc (.map #[] 0) = w1 at *
      have q1 : w1.cell? ⟨M, 1, none⟩ = some (.slice a bs.length cap) := by rw [Lib.cell_of_heap hm1]; rfl
      have q2 : w1.cell? ⟨M, 2, none⟩ = some j0 := by rw [Lib.cell_of_heap hm1]; rfl
      have q3 : w1.cell? ⟨M, 3, none⟩ = some .nilFunc := by rw [Lib.cell_of_heap hm1]; rfl
      have q4 : w1.cell? ⟨M, 4, none⟩ = some (.bool true) := by rw [Lib.cell_of_heap hm1]; rfl
      have q8 : w1.cell? ⟨M, 8, none⟩ = some p0 := by rw [Lib.cell_of_heap hm1]; rfl
      have e8 : w1.frozen? ⟨M, 8, none⟩ = false := by simp [World.frozen?, show w1.heap[M]? = _ from hm1]
      have e2 : w1.frozen? ⟨M, 2, none⟩ = false := by simp [World.frozen?, show w1.heap[M]? = _ from hm1]
      have hM1 : M < w1.heap.size := by omega
      have hnj := nil_junk w1
      clear hmw hmw2 f5 k0 k5 hown
      by_cases hbig : 200 ≤ bs.length
      · omega
      · go_wp2_with fail
        go_end0
        refine ⟨rfl, ?_⟩
        exact (chain_end (fun s => idxL bs s) hb1 hm1 hJ hown1 hk1 (by omega) hML (by omega) (fun s => by rw [gD_at bs s bs.length (Nat.le_refl _), List.take_length]) (fun s j h => (mem_idx bs).1 h) (fun _ _ => rfl)).alloc _
end Go.Proofs.YtkbppaddghfgpaaDoor
