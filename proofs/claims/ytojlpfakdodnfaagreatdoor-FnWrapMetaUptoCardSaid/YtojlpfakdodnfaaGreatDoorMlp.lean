/- MakeLabelPairs. -/
import Derived.Test.YtojlpfakdodnfaaGreatDoorLpf
import Derived.Test.YtojlpfakdodnfaaGreatDoorNew3
import Derived.Test.YtojlpfakdodnfaaGreatDoorMet
import Derived.Deep.RegionLaw
import Derived.Deep.AppendLies
import Derived.Maps.AppendAt
set_option linter.unusedVariables false
set_option linter.unusedSimpArgs false
namespace Go.Proofs.YtojlpfakdodnfaaGreatDoor
open Go.RowKit

def ptrV (z : Nat × Ent) : Value := .pointer (some ⟨z.1, 0, none⟩)
theorem RdLP.below {w x : World} {v : Value} {xs : List Ent} (h : RdLP w v xs) (hb : Below w.heap.size w x) : RdLP x v xs := by
  obtain ⟨p, cap, b, off, rfl, h1, h2, h3, hc⟩ := h
  refine ⟨p, cap, b, off, rfl, h1, h2, h3, fun i x hx => ?_⟩
  obtain ⟨pv, c, hp⟩ := hc i x hx
  exact ⟨pv, (hb.cell (p := ⟨b, off + i, none⟩) (World.block_lt_of_cell? w _ c)).trans c, hp.below hb⟩
theorem RdLP.zs {w : World} {v : Value} {xs : List Ent} (h : RdLP w v xs) : ∃ zs : List (Nat × Ent), zs.map (·.2) = xs ∧ RdC ptrV w v zs ∧ ∀ z ∈ zs, PairAt w (ptrV z) z.2 := by
  obtain ⟨p, cap, b, off, rfl, h1, h2, h3, hc⟩ := h
  obtain ⟨zs, hl, hz⟩ := choose_list (α := Nat × Ent) (Q := fun i z => xs[i]? = some z.2 ∧ w.cell? ⟨b, off + i, none⟩ = some (ptrV z) ∧ PairAt w (ptrV z) z.2) xs.length (fun i hi => by
    obtain ⟨pv, c, hp⟩ := hc i xs[i] (List.getElem?_eq_getElem hi)
    have hp' := hp
    obtain ⟨b', bn, bv, rfl, _⟩ := hp'
    exact ⟨(b', xs[i]), List.getElem?_eq_getElem hi, c, hp⟩)
  have hm : zs.map (·.2) = xs := by
    refine List.ext_getElem? fun i => ?_
    rw [List.getElem?_map]
    cases hzi : zs[i]? with
    | none =>
      have : xs.length ≤ i := by rw [← hl]; exact List.getElem?_eq_none_iff.1 hzi
      exact (List.getElem?_eq_none_iff.2 this).symm
    | some z => exact (hz i z hzi).1.symm
  refine ⟨zs, hm, ⟨p, cap, b, off, by rw [hl], by omega, h2, ?_, fun i z hi => (hz i z hi).2.1⟩, fun z hz' => ?_⟩
  · rcases h3 with h | h
    · left; rw [h] at hl; exact List.eq_nil_of_length_eq_zero hl
    · exact .inr h
  · obtain ⟨i, hi⟩ := List.mem_iff_getElem?.1 hz'
    exact (hz i z hi).2.2
set_option maxRecDepth 100000 in
/-- append(row, pointers...), whatever the pointers. -/
theorem ap_ptrs {ops : Array Oper} {rest : List Oper} {o : Oper} {a : Act} {Q : Exit → Act → World → Prop} {w : World} (hgd : o.guard = none) (s x : Operand)
    (ho : o.op = .call { callee := .builtin .append, args := #[s, x], argTypes := #[63, 63] })
    {B n : Nat} {v vv : Value} {xs : List Value} {zs : List (Nat × Ent)} (hs : a.eval s = v) (hx : a.eval x = vv) (hown : w.ownsRow B 86 1 v n xs) (hv : RdC ptrV w vv zs) (hn : n + zs.length ≤ 16777216) (hB : B ≤ w.heap.size)
    (hK : ∀ v' w', w'.ownsRow B 86 1 v' (n + zs.length) (xs ++ zs.map ptrV) → w.grownBy w' v.ownBlock → wpList Tryz.prog ops Q rest (a.put o.dst v') w') : wpList Tryz.prog ops Q (o :: rest) a w := by
  obtain ⟨z0, hzi, hzz, hzs, hzb⟩ := info_parts info_ptr
  obtain ⟨p, cap, b, off, rfl, hcap, hmx, hp, hc⟩ := hv
  by_cases h0 : zs = []
  · subst h0
    obtain ⟨a1, c1, rfl, hc1⟩ := own_shapeL hown
    refine wpList_plain hgd fun K hK' => ?_
    have hrun := run_append0 (P := Tryz.prog) (w := w) 63 o.type 86 z0 Tryz.underlying63 hzi a1 n c1 p cap hc1
    unfold Oper.wp
    simp only [execOp, ho, resolve, invoke, builtin, Sem.run_bind, Sem.run_pure, Result.andThen_ok, List.map_toArray, List.map_cons, List.map_nil, hs, hx, List.length_nil, hrun]
    exact hK' _ _ (hK _ _ (by simpa using hown) ⟨rfl, rfl, rfl, Nat.le_refl _, fun _ _ _ => rfl⟩)
  · have hp2 : p = some ⟨b, off, none⟩ := hp.resolve_left h0
    subst hp2
    exact wpList_append_own_at w hgd s x 63 ho B 86 z0 (.pointer none) 1 8 Tryz.underlying63 hzi hzz hzs hzb rfl (by decide) v n xs hs hown ⟨b, off, none⟩ zs.length cap (zs.map ptrV) hx (by simp)
      (fun j u hj => by
        rw [List.getElem?_map] at hj
        cases hy : zs[j]? with
        | none => rw [hy] at hj; cases hj
        | some y =>
          rw [hy] at hj
          injection hj with hj
          subst hj
          have e : (⟨b, off, none⟩ : Addr).add j = ⟨b, off + j, none⟩ := by unfold Addr.add; split <;> simp_all
          rw [e]
          exact hc j y hy)
      (fun u hu => by obtain ⟨y, _, rfl⟩ := List.mem_map.1 hu; rfl) (by unfold maxLen; omega) (by omega) hB (fun v' w' h1 h2 _ _ => hK v' w' h1 h2)
def SaidLP (xs : List Ent) (w w' : World) (e : Ending) : Prop := (∃ v, e = .returned v ∧ RdLP w' v xs) ∧ Stp w w'
set_option maxHeartbeats 6400000 in
set_option maxRecDepth 100000 in
theorem makeLP (D : Dsc) (CQ : Nat → Value → Value → Prop) (P : Nat) (v3 : Value) (vals : List ByteArray) (w : World) (hg : Good w P CQ D) (hv3 : RdC Value.string w v3 vals) (hl : vals.length = D.vars.length) (hn : (D.keys ++ D.vars).Nodup) (hsum : D.vars.length + D.cons.length ≤ 4194304) :
    Calls Tryz.prog 50 #[.pointer (some ⟨P, 0, none⟩), v3] w fun e w' => SaidLP (labelsOf D vals) w w' e := by
  obtain ⟨zp, hpi, hpz, hps', hpb⟩ := info_parts info_ptr
  obtain ⟨Q, vv, lc, psv, _, hD, hQ, hvv, hps⟩ := hg
  have HPS := Lib.hid hps
  have HD := Lib.hid hD
  obtain ⟨zs0, hz0, hrd, hpa⟩ := hps.zs
  have HZ0 := Lib.hid hz0
  have HRD := Lib.hid hrd
  have HPA0 := Lib.hid hpa
  have hzl : zs0.length ≤ D.cons.length := by have := fit_len D.cons; rw [← hz0, List.length_map] at this; exact this
  obtain ⟨a1, cap1, b1, o1, rfl, hcp1, hmx1, hp1, hc1⟩ := hvv
  obtain ⟨a2, cap2, b2, o2, rfl, hcp2, hmx2, hp2, hc2⟩ := hrd
  obtain ⟨a3, cap3, b3, o3, rfl, hcp3, hmx3, hp3, hc3⟩ := hv3
  unfold maxLen at hmx1 hmx2 hmx3
  have HC1 := Lib.hid hc1
  have HC3 := Lib.hid hc3
  have HL := Lib.hid hl
  have HN := Lib.hid hn
  have KS : Hid (∀ x, Below w.heap.size w x → x.cell? ⟨P, 4, none⟩ = some (.pointer (some ⟨Q, 0, none⟩)) ∧ x.cell? ⟨Q, 0, none⟩ = some (.slice a1 D.vars.length cap1) ∧ x.cell? ⟨P, 3, none⟩ = some (.slice a2 zs0.length cap2)) := Lib.hid (fun x hx => by
    have h := (Chg.of_below hx Non).obj hD (fun h => h)
    have k := (Chg.of_below hx Non).obj hQ (fun h => h)
    exact ⟨by rw [Lib.cell_of_heap h]; rfl, by rw [Lib.cell_of_heap k]; rfl, by rw [Lib.cell_of_heap h]; rfl⟩)
  have hLZ : (D.vars.zip vals).length = D.vars.length := by rw [List.length_zip, hl, Nat.min_self]
  clear hc1 hc2 hc3 hl hn hD hQ hps hpa hz0
  obtain ⟨k1, k2, k3⟩ := KS.out w (Below.refl _ _)
  obtain ⟨mn, hmn⟩ : ∃ mn : Nat, (D.vars.length : Int) + (zs0.length : Int) = (mn : Int) := ⟨D.vars.length + zs0.length, by push_cast; rfl⟩
  have HMN : Hid (mn = D.vars.length + zs0.length) := Lib.hid (by omega)
  go_enter Tryz.func50, Tryz.ntmps50
  go_upto_region 1 with fail
  go_quiet (fail)
  go_upto_region 2 with fail
  have hb1 : Below w.heap.size w (w.drewN nq) := below_drewN (Below.refl _ _) nq
  clear k1 k2 k3
  generalize w.drewN nq = w1 at *
  obtain ⟨k1, k2, k3⟩ := KS.out w1 hb1
  have HB1 := Lib.hid hb1
  clear hb1
  by_cases h0 : mn = 0
  · subst h0
    have HR : Hid (labelsOf D vals = []) := Lib.hid (by
      have h1 : D.vars = [] := List.eq_nil_of_length_eq_zero (by have := HMN.out; omega)
      have h2 : zs0 = [] := List.eq_nil_of_length_eq_zero (by have := HMN.out; omega)
      rw [labels_novars h1, ← HZ0.out, h2]; rfl)
    have e0 : (((0 : Nat) : Int) == 0) = true := rfl
    go_wp2_with fail
    go_ret
    exact ⟨⟨_, rfl, by rw [HR.out]; exact ⟨none, 0, 0, 0, rfl, Nat.le_refl _, Nat.zero_le _, .inl rfl, by simp⟩⟩, HB1.out⟩
  have e0 : ((mn : Int) == 0) = false := beq_eq_false_iff_ne.2 (by omega)
  by_cases h1 : D.vars.length = 0
  · have e1 : ((D.vars.length : Int) == 0) = true := beq_iff_eq.2 (by omega)
    have HR : Hid (labelsOf D vals = fit D.cons) := Lib.hid (labels_novars (List.eq_nil_of_length_eq_zero h1))
    go_wp2_with fail
    go_ret
    exact ⟨⟨_, rfl, by rw [HR.out]; exact HPS.out.below HB1.out⟩, HB1.out⟩
  have e1 : ((D.vars.length : Int) == 0) = false := beq_eq_false_iff_ne.2 (by omega)
  have hmn8 : mn ≤ 4194304 := by have := HMN.out; omega
  have hs1 : w.heap.size ≤ w1.heap.size := HB1.out.size
  go_wp2_with (at_make; go_must (refine wpList_make_own _ rfl _ _ 63 rfl w.heap.size 86 zp (.pointer none) 1 Tryz.underlying63 hpi hpz hps' .i64 .i64 _ mn rfl rfl rfl (by rw [hpb]; omega) (by unfold maxLen; omega) hs1 ?_))
  intro w2 hrow2 hg2
  have hb2 : Below w.heap.size w w2 := HB1.out.grown hg2 hs1 (fun q h => by cases h)
  clear k1 k2 k3 hg2
  obtain ⟨k1, k2, k3⟩ := KS.out w2 hb2
  go_wp2_with fail
  go_loopw [6, 48] (fun o iv wx => ∃ (k L cap : Nat) (zs : List (Nat × Ent)), k ≤ D.vars.length ∧ iv = .int .i64 (k : Int) ∧ o = .slice (some ⟨L, 0, none⟩) k cap ∧ wx.ownsRow w.heap.size 86 1 (.slice (some ⟨L, 0, none⟩) k cap) k (zs.map ptrV) ∧ Hid (zs.map (·.2) = (D.vars.zip vals).take k) ∧ Hid (∀ z ∈ zs, PairAt wx (ptrV z) z.2) ∧ Below w.heap.size w wx) (fun _ iv _ => D.vars.length - (intOf iv).toNat)
  case atStart => exact ⟨0, _, _, [], Nat.zero_le _, rfl, rfl, hrow2, Lib.hid (by simp), Lib.hid (by simp), hb2⟩
  case round =>
    obtain ⟨k, L, cap, zs, hk, rfl, rfl, hown, HZS, HPA, hbr⟩ := hrel
    have HBR := Lib.hid hbr
    have HOWN := Lib.hid hown
    have hwr := hbr.size
    have HDR : Hid (DB wr P _ _ _ _ _ _ _ _) := Lib.hid ((Chg.of_below hbr Non).obj HD.out (fun h => h))
    by_cases hlt : k < D.vars.length
    · have hlti : (k : Int) < (D.vars.length : Int) := by omega
      have hlt3 : k < vals.length := by have := HL.out; omega
      have hlti3 : (k : Int) < (vals.length : Int) := by omega
      obtain rfl : a1 = some ⟨b1, o1, none⟩ := by
        rcases hp1 with h | h
        · rw [h] at hlt; exact absurd hlt (Nat.not_lt_zero _)
        · exact h
      obtain rfl : a3 = some ⟨b3, o3, none⟩ := by
        rcases hp3 with h | h
        · rw [h] at hlt3; exact absurd hlt3 (Nat.not_lt_zero _)
        · exact h
      have c1 := HC1.out k D.vars[k] (List.getElem?_eq_getElem hlt)
      have c3 := HC3.out k vals[k] (List.getElem?_eq_getElem hlt3)
      have d1 := (hbr.cell (p := ⟨b1, o1 + k, none⟩) (World.block_lt_of_cell? w _ c1)).trans c1
      have d3 := (hbr.cell (p := ⟨b3, o3 + k, none⟩) (World.block_lt_of_cell? w _ c3)).trans c3
      have q0 : b3 < wr.heap.size := World.block_lt_of_cell? wr _ d3
      have q1 : b3 < wr.heap.size + 1 := by omega
      have q2 : b3 < wr.heap.size + 1 + 1 := by omega
      have q2' : b3 < wr.heap.size + 2 := by omega
      have HTK : Hid ((D.vars.zip vals).take (k + 1) = (D.vars.zip vals).take k ++ [(D.vars[k], vals[k])]) := Lib.hid (by
        have hz : k < (D.vars.zip vals).length := by omega
        rw [List.take_succ_eq_append_getElem hz, List.getElem_zip])
      clear c1 c3 hbr hown k1 k2 k3
      generalize D.vars[k] = s at *
      generalize vals[k] = t at *
      have HCN : Hid (∀ y, Chg Non wr y → y.ownsRow w.heap.size 86 1 (.slice (some ⟨L, 0, none⟩) k cap) k (zs.map ptrV)) := Lib.hid (fun y hy => hy.row HOWN.out (fun q _ h => h))
      have KEY : Hid (∀ (w8 : World) (g8 cap8 q : Nat), PairAt w8 (.pointer (some ⟨q, 0, none⟩)) (s, t) → w8.ownsRow w.heap.size 86 1 (.slice (some ⟨g8, 0, none⟩) (k + 1) cap8) (k + 1) ((zs.map ptrV) ++ [.pointer (some ⟨q, 0, none⟩)]) → Chg (fun i => i = L) wr w8 →
          (∃ (k' L' cap' : Nat) (zs' : List (Nat × Ent)), k' ≤ D.vars.length ∧ Value.int .i64 ((k : Int) + 1) = .int .i64 (k' : Int) ∧ Value.slice (some ⟨g8, 0, none⟩) (k + 1) cap8 = .slice (some ⟨L', 0, none⟩) k' cap' ∧ w8.ownsRow w.heap.size 86 1 (.slice (some ⟨L', 0, none⟩) k' cap') k' (zs'.map ptrV) ∧ Hid (zs'.map (·.2) = (D.vars.zip vals).take k') ∧ Hid (∀ z ∈ zs', PairAt w8 (ptrV z) z.2) ∧ Below w.heap.size w w8)) := Lib.hid (by
        intro w8 g8 cap8 q hp8 ho8 hc8
        refine ⟨k + 1, g8, cap8, zs ++ [(q, (s, t))], by omega, by go_num, rfl, by rw [List.map_append]; exact ho8, Lib.hid (by rw [List.map_append, HZS.out, HTK.out]; rfl), Lib.hid (fun z hz => ?_), ?_⟩
        · rcases List.mem_append.1 hz with hz | hz
          · exact pairs_stay HOWN.out HDR.out (hc8.mono (fun i hi => .inr hi)) (HPA.out z hz)
          · rw [List.mem_singleton.1 hz]; exact hp8
        · exact HBR.out.trans (hc8.below (fun i hi => by rw [hi]; exact (row_from HOWN.out L rfl).1) hwr))
      go_upto_region 10 with fail
      go_region_law (first
        | (refine step_of (by rfl) _ _ (by rfl) _ (by rfl) ?_)
        | (refine step_append_lies _ (by rfl) _ _ _ (by rfl) w.heap.size 86 zp (.pointer none) 1 8 Tryz.underlying63 hpi hpz hps' hpb rfl (by omega) (.slice (some ⟨L, 0, none⟩) k cap) k (zs.map ptrV) (by rfl) (HCN.out _ (by repeat (first | exact Chg.refl _ _ | apply Chg.alloc | apply Chg.drew))) ⟨_, 0, none⟩ 1 1 [.pointer (some ⟨_, 0, none⟩)] (by rfl) (by rfl) (World.news_of_block (cs := #[.pointer (some ⟨_, 0, none⟩)]) (t := 86) (fr := (0, 0)) (at_new _ _ _ (by simp))) (by simp [Value.oneCell']) (by omega) (by unfold maxLen; omega) (by omega) (by simp; omega) _ rfl ?_; intro g8 cap8 w8 ho8 hg8 hat8 hlt8
           have hc8 : Chg (fun i => i = L) wr w8 := Chg.grown (by repeat (first | exact Chg.refl _ _ | apply Chg.alloc | apply Chg.drew)) hg8 (fun q hq => by injection hq with hq; exact .inl hq.symm)
           have hp8 := Lib.hid (pairs_stay (HCN.out _ (by repeat (first | exact Chg.refl _ _ | apply Chg.alloc | apply Chg.drew))) (HDR.out.chg (S := Non) (by repeat (first | exact Chg.refl _ _ | apply Chg.alloc | apply Chg.drew)) (fun h => h)) ((Chg.refl (fun i => i = P ∨ i = L) _).grown hg8 (fun q hq => by injection hq with hq; exact .inl (.inr hq.symm))) (by first | exact pairNew1 wr.drew s t _ | exact pairNew2 wr.drew s t _))
           have hk8 := Lib.hid (KEY.out _ _ _ _ hp8.out ho8 hc8)
           clear hg8 hat8 hlt8 hc8 hp8 ho8))
      all_goals clear KEY HCN
      all_goals go_wp2_with fail
      all_goals go_roundw
      all_goals first | exact hk8.out | (simp [intOf]; omega)
    · have hlti : ¬ (k : Int) < (D.vars.length : Int) := by omega
      have hkl : k = D.vars.length := by omega
      subst hkl
      obtain ⟨k1, k2, k3⟩ := KS.out wr hbr
      have HRDR := Lib.hid (HRD.out.below hbr)
      clear hown hbr
      go_wp2_with (at_builtin; go_must (refine ap_ptrs rfl _ _ rfl rfl rfl HOWN.out HRDR.out (by omega) hwr ?_))
      intro nv w5 ho5 hg5
      have hc5 : Chg (fun i => i = L) wr w5 := (Chg.refl (fun i => i = L) wr).grown hg5 (fun q hq => by injection hq with hq; exact .inl hq.symm)
      have hzk : zs.length = D.vars.length := by
        have := congrArg List.length HZS.out
        rw [List.length_map, List.length_take, hLZ, Nat.min_eq_left hk] at this
        exact this
      have HAL : Hid ((zs ++ zs0).map (·.2) = D.vars.zip vals ++ fit D.cons) := Lib.hid (by
        rw [List.map_append, HZS.out, HZ0.out, List.take_of_length_le (by omega)])
      have hlen : D.vars.length + zs0.length = (zs ++ zs0).length := by rw [List.length_append, hzk]
      have HPA5 : Hid (∀ z ∈ zs ++ zs0, PairAt w5 (.pointer (some ⟨z.1, 0, none⟩)) z.2) := Lib.hid (fun z hz => by
        refine pairs_stay HOWN.out HDR.out (hc5.mono (fun i hi => .inr hi)) ?_
        rcases List.mem_append.1 hz with hz | hz
        · exact HPA.out z hz
        · exact (HPA0.out z hz).below HBR.out)
      have HD5 := Lib.hid (HDR.out.chg hc5 (fun e => row_ne_desc HOWN.out HDR.out e.symm))
      have hb5 : Below w.heap.size w w5 := HBR.out.trans (hc5.below (fun i hi => by rw [hi]; exact (row_from HOWN.out L rfl).1) hwr)
      rw [← List.map_append] at ho5
      obtain ⟨g5, c5, rfl⟩ := row_shape ho5 (by omega)
      rw [hlen] at ho5
      have halm : (zs ++ zs0).length ≤ 4194304 := by omega
      rw [hlen]
      clear hc5 hg5
      generalize zs ++ zs0 = al at *
      have HO5 := Lib.hid ho5
      have HS := Lib.hid (sortPairs al w5 HPA5.out ho5 (by omega))
      have HB5 := Lib.hid hb5
      clear ho5 hb5 hlen
      go_wp2_with (go_at_call 62; go_must (refine HS.out.mono ?_))
      rintro e wS ⟨rfl, ps, HPS', hrowS, hcS⟩
      have HFB : Hid (Below w.heap.size w wS) := Lib.hid (HB5.out.trans (hcS.below (fun i hi => by rw [hi]; exact (row_from HO5.out g5 rfl).1) HB5.out.size))
      have hpS : ∀ z ∈ ps, PairAt wS (.pointer (some ⟨z.1, 0, none⟩)) z.2 := fun z hz => pairs_stay HO5.out HD5.out (hcS.mono (fun i hi => .inr hi)) (HPA5.out z (HPS'.out.1.mem_iff.1 hz))
      have HLS : Hid (ps.map (·.2) = labelsOf D vals) := Lib.hid (labels_sorted (zs' := ps.map (·.2)) (by have h1 := HPS'.out.1.map (·.2); rw [HAL.out] at h1; exact h1) (List.pairwise_map.2 HPS'.out.2) HN.out HL.out)
      have HFR := Lib.hid (rdlp_of hrowS hpS)
      clear hrowS hcS hpS
      go_wp2_with fail
      go_ret
      exact ⟨⟨_, rfl, by rw [← HLS.out]; exact HFR.out⟩, HFB.out⟩
end Go.Proofs.YtojlpfakdodnfaaGreatDoor
