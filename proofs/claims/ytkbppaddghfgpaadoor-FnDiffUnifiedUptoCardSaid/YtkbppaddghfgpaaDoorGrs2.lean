/- impl.Groups. -/
import Derived.Test.YtkbppaddghfgpaaDoorGrs
import Derived.Test.YtkbppaddghfgpaaDoorGrp2
set_option linter.unusedVariables false
set_option linter.unusedSimpArgs false
namespace Go.Proofs.YtkbppaddghfgpaaDoor
open Go.RowKit Go.Maps

def SaidOwn (t : TypeId) (ts : List Ed) (w w' : World) (e : Ending) : Prop := (∃ v', e = .returned v' ∧ w'.ownsRow w.heap.size t 5 v' ts.length (fiv ts)) ∧ Below w.heap.size w w'

set_option maxHeartbeats 1600000 in
set_option maxRecDepth 100000 in
theorem implGroups (v1 v2 : Value) (a b : List ByteArray) (n : Nat) (hn : n ≤ 255) (w : World) (hv1 : RdC Value.string w v1 a) (hv2 : RdC Value.string w v2 b)
    (hla : a.length ≤ 1048576) (hlb : b.length ≤ 1048576) (hsa : ∀ s ∈ a, s.size ≤ maxLen) (hsb : ∀ s ∈ b, s.size ≤ maxLen) :
    Calls Tryd.prog 14 #[v1, v2, .int .i64 (n : Int)] w fun e w' => SaidGs (grp n (edits (gmb a b (b2jL b)))) w w' e := by
  have HSA := Lib.hid hsa
  have HSB := Lib.hid hsb
  have HV1 := Lib.hid hv1
  have HV2 := Lib.hid hv2
  obtain ⟨q0, hq, hy0, hy1, hy2⟩ := info_parts info_rowE
  clear hsa hsb hv1 hv2
  go_enter Tryd.func14, Tryd.ntmps14
  go_wp2_with (go_at_call 17; go_must (refine (newMatcherG v1 v2 a b w HV1.out HV2.out (by omega) HSB.out).mono ?_))
  rintro e w1 ⟨rfl, hC⟩
  have hb1 := hC.1
  obtain ⟨hm0, hL⟩ := hC.mem0 (HV1.out.below hb1) (HV2.out.below hb1)
  have HL := Lib.hid hL
  have HG := Lib.hid (grouped n hn w1 hm0 hL (by omega) (by omega) HSA.out HSB.out)
  obtain ⟨ht1, ht2⟩ := grp_tot n (edits (gmb a b (b2jL b)))
  have hlen := edits_len2 (a := a) hL
  clear hC hm0 hL
  go_wp2_with (go_at_call 22; go_must (refine HG.out.mono ?_))
  rintro e w2 ⟨⟨gv, rfl, B9, vals9, _, hgr9⟩, hb2⟩
  have hrd := hgr9.read
  clear hgr9
  have hb12 := hb1.trans hb2
  clear HG HL hb1 hb2
  generalize hgs : grp n (edits (gmb a b (b2jL b))) = gs at *
  have HGS := Lib.hid hgs
  clear hgs
  have hgl : gs.length ≤ 8589934594 := by omega
  obtain ⟨gp, gcap, gb, goff, rfl, hgc, hgmx, hgp, hgcell⟩ := hrd
  unfold maxLen at hgmx
  have HGC := Lib.hid hgcell
  clear hgcell
  go_wp2_with fail
  go_loopw [7, 16] (fun v7 v16 wr => ∃ t : Nat, t ≤ gs.length ∧ v16 = .int .i64 (t : Int) ∧ (∃ vals, GR wr w2.heap.size 31 34 vals (gs.take t) v7) ∧ Below w2.heap.size w2 wr)
    (fun _ v16 _ => gs.length - (intOf v16).toNat)
  case atStart => exact ⟨0, Nat.zero_le _, rfl, ⟨[], GR.nil _ _ _ _⟩, Below.refl _ _⟩
  case round =>
    obtain ⟨t, ht, rfl, ⟨vals, hG⟩, hbr⟩ := hrel
    obtain ⟨a1, a3, hvg⟩ := own_shapeG hG.grp
    have htl : (gs.take t).length = t := by rw [List.length_take]; omega
    rw [htl] at hvg
    by_cases hlt : t < gs.length
    · have hlt' : (t : Int) < (gs.length : Int) := by omega
      obtain rfl : gp = some ⟨gb, goff, none⟩ := by
        rcases hgp with h | h
        · rw [h] at hlt; exact absurd hlt (Nat.not_lt_zero _)
        · exact h
      obtain ⟨vi, hci, hri⟩ := HGC.out t gs[t] (List.getElem?_eq_getElem hlt)
      have hci' := (hbr.cell (p := ⟨gb, goff + t, none⟩) (World.block_lt_of_cell? w2 _ hci)).trans hci
      have hri' := hri.below hbr
      have HT : Hid (gs.take (t + 1) = gs.take t ++ [gs[t]]) := Lib.hid (List.take_succ_eq_append_getElem hlt)
      have hgt : (gs[t]).length ≤ 8589934592 := by
        have h1 : tot gs = tot (gs.take (t + 1)) + tot (gs.drop (t + 1)) := by rw [← tot_app, List.take_append_drop]
        rw [HT.out, tot_app] at h1
        simp only [tot] at h1
        omega
      generalize gs.take t = gt at *
      generalize gs[t] = g at *
      subst hvg
      have hsh : ∃ p l c, vi = .slice p l c := by obtain ⟨p, c, _, _, h, _⟩ := hri; exact ⟨p, _, c, h⟩
      obtain ⟨vp, vl, vc, rfl⟩ := hsh
      have HC : Hid (Calls Tryd.prog 16 #[.slice vp vl vc] wr fun e w' => SaidOwn 34 g wr w' e) := Lib.hid (implEditsO _ g wr hri' hgt)
      clear hci hri hri'
      go_wp2_with (go_at_call 16; go_must (refine HC.out.mono ?_))
      rintro e w3 ⟨⟨v3, rfl, hov⟩, hb3⟩
      have hG3 := hG.below hb3
      have hav := apart_new hG.grp hov
      have hbr3 := hbr.trans (hb3.mono hbr.size)
      have hsz3 := hbr3.size
      obtain ⟨d1, d3, hv3⟩ := own_shapeG hov
      subst hv3
      have hov2 := own_base hov hbr.size
      clear hG hov hb3 hbr
      have hG4 := hG3.below ((Below.refl _ w3).alloc (Nat.le_refl _) (.cells #[.slice d1 g.length d3] 31))
      have hov4 := own_below3 hov2 ((Below.refl _ w3).alloc (Nat.le_refl _) (.cells #[.slice d1 g.length d3] 31))
      have hgo := hG4.grp
      rw [htl] at hgo
      go_wp2_with (at_builtin; go_must (refine wpList_append_own_at _ rfl _ _ 45 rfl w2.heap.size 31 q0 (.slice none 0 0) 1 24 Tryd.underlying45 hq hy0 hy1 hy2 rfl (by decide) _ _ _ rfl hgo ⟨w3.heap.size, 0, none⟩ 1 1 [.slice d1 g.length d3] rfl rfl (cell_one1 w3 _ _) (by intro u hu; simp at hu; rw [hu]; rfl) (by unfold maxLen; omega) (by omega) (by simp; omega) ?_))
      intro v5 w5 ho5 hg5 _ hl5
      have hb5 := (hbr3.alloc hsz3 (.cells #[.slice d1 g.length d3] 31)).grown hg5 (by simp; omega) (fun q hq => (hgo.lt q hq).1)
      rw [← htl] at ho5
      have hG5 := hG4.next hav hov4 ho5 hg5 hl5 (by simp)
      go_wp2_with fail
      go_roundw
      case rel => exact ⟨t + 1, by omega, by go_num, ⟨_, by rw [HT.out]; exact hG5⟩, hb5⟩
      case measure => simp [intOf]; omega
    · have hkl : t = gs.length := by omega
      have hlt' : ¬ (t : Int) < (gs.length : Int) := by omega
      subst hkl
      rw [List.take_length] at *
      subst hvg
      go_wp2_with fail
      go_ret
      exact ⟨⟨_, rfl, by rw [HGS.out]; exact hG.read⟩, hb12.trans (hbr.mono hb12.size)⟩
end Go.Proofs.YtkbppaddghfgpaaDoor
