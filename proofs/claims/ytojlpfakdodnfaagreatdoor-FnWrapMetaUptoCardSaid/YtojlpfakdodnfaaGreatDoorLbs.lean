/- spec.Labels. -/
import Derived.Test.YtojlpfakdodnfaaGreatDoorLpf
import Derived.Test.YtojlpfakdodnfaaGreatDoorMet
import Derived.Deep.RegionLaw
set_option linter.unusedVariables false
set_option linter.unusedSimpArgs false
namespace Go.Proofs.YtojlpfakdodnfaaGreatDoor
open Go.RowKit

theorem twoV_cons (x : Ent) (r : List Ent) : twoV (x :: r) = .string x.1 :: .string x.2 :: twoV r := by simp [twoV]
theorem twoV_inv : ∀ (xs : List Ent) (j : Nat) (u : Value), (twoV xs)[j]? = some u → ∃ i x, xs[i]? = some x ∧ (j = i * 2 ∧ u = .string x.1 ∨ j = i * 2 + 1 ∧ u = .string x.2)
  | [], j, u, h => by simp [twoV] at h
  | x :: r, 0, u, h => by rw [twoV_cons] at h; exact ⟨0, x, rfl, .inl ⟨rfl, (Option.some.inj h).symm⟩⟩
  | x :: r, 1, u, h => by rw [twoV_cons] at h; exact ⟨0, x, rfl, .inr ⟨rfl, (Option.some.inj h).symm⟩⟩
  | x :: r, j + 2, u, h => by
    rw [twoV_cons] at h
    obtain ⟨i, y, hy, hh⟩ := twoV_inv r j u (by simpa using h)
    refine ⟨i + 1, y, by simpa using hy, ?_⟩
    rcases hh with ⟨h1, h2⟩ | ⟨h1, h2⟩
    · exact .inl ⟨by omega, h2⟩
    · exact .inr ⟨by omega, h2⟩
set_option maxRecDepth 100000 in
/-- append(row, pairs...), whatever the pairs. -/
theorem ap_ents {ops : Array Oper} {rest : List Oper} {o : Oper} {a : Act} {Q : Exit → Act → World → Prop} {w : World} (hgd : o.guard = none) (s x : Operand)
    (ho : o.op = .call { callee := .builtin .append, args := #[s, x], argTypes := #[23, 23] })
    {B n : Nat} {v vv : Value} {xs : List Value} {es : List Ent} (hs : a.eval s = v) (hx : a.eval x = vv) (hown : w.ownsRow B 53 2 v n xs) (hv : RdE w vv es) (hn : n + es.length ≤ 16777216) (hB : B ≤ w.heap.size)
    (hK : ∀ v' w', w'.ownsRow B 53 2 v' (n + es.length) (xs ++ twoV es) → w.grownBy w' v.ownBlock → wpList Tryz.prog ops Q rest (a.put o.dst v') w') : wpList Tryz.prog ops Q (o :: rest) a w := by
  obtain ⟨z0, hzi, hzz, hzs, hzb⟩ := info_parts info_spr
  obtain ⟨p, cap, b, off, rfl, hcap, hmx, hp, hc⟩ := hv
  by_cases h0 : es = []
  · subst h0
    obtain ⟨a1, c1, rfl, hc1⟩ := own_shapeL hown
    refine wpList_plain hgd fun K hK' => ?_
    have hrun := run_append0 (P := Tryz.prog) (w := w) 23 o.type 53 z0 Tryz.underlying23 hzi a1 n c1 p cap hc1
    unfold Oper.wp
    simp only [execOp, ho, resolve, invoke, builtin, Sem.run_bind, Sem.run_pure, Result.andThen_ok, List.map_toArray, List.map_cons, List.map_nil, hs, hx, List.length_nil, hrun]
    exact hK' _ _ (hK _ _ (by simpa [twoV] using hown) ⟨rfl, rfl, rfl, Nat.le_refl _, fun _ _ _ => rfl⟩)
  · have hp2 : p = some ⟨b, off, none⟩ := hp.resolve_left h0
    subst hp2
    exact wpList_append_own_at w hgd s x 23 ho B 53 z0 (.agg #[.string ⟨#[]⟩, .string ⟨#[]⟩]) 2 32 Tryz.underlying23 hzi hzz hzs hzb rfl (by decide) v n xs hs hown ⟨b, off, none⟩ es.length cap (twoV es) hx (twoV_len es)
      (fun j u hj => by
        obtain ⟨i, y, hy, hh⟩ := twoV_inv es j u hj
        obtain ⟨k1, k2⟩ := hc i y hy
        have e : (⟨b, off, none⟩ : Addr).add j = ⟨b, off + j, none⟩ := by unfold Addr.add; split <;> simp_all
        rw [e]
        rcases hh with ⟨rfl, rfl⟩ | ⟨rfl, rfl⟩
        · exact k1
        · rw [← Nat.add_assoc]; exact k2)
      (twoV_one es) (by unfold maxLen; omega) (by omega) hB (fun v' w' h1 h2 _ _ => hK v' w' h1 h2)
theorem rowNewP (z : World) (B : Nat) (hB : B ≤ z.heap.size) : (z.alloc (.cells #[] 53)).ownsRow B 53 2 (.slice (some ⟨z.heap.size, 0, none⟩) 0 0) 0 [] := ⟨rfl, .inr ⟨z.heap.size, 0, #[], rfl, hB, heap_alloc_new _ _, Nat.le_refl _, Nat.zero_le _, rfl, rfl⟩⟩
set_option maxHeartbeats 3200000 in
set_option maxRecDepth 100000 in
theorem labelsSpec (D : Dsc) (v1 v2 v3 : Value) (vals : List ByteArray) (w : World) (hv1 : RdC Value.string w v1 D.vars) (hv2 : RdE w v2 D.cons) (hv3 : RdC Value.string w v3 vals) (hl : vals.length = D.vars.length) (hsum : D.vars.length + D.cons.length ≤ 4194304) :
    Calls Tryz.prog 20 #[MetaV D.name D.help D.unit v1 v2, v3] w fun e w' => SaidP (labelsOf D vals) w w' e := by
  have HV2 := Lib.hid hv2
  obtain ⟨z0, hzi, hzz, hzs, hzb⟩ := info_parts info_spr
  obtain ⟨a1, cap1, b1, o1, rfl, hcp1, hmx1, hp1, hc1⟩ := hv1
  obtain ⟨a2, cap2, b2, o2, rfl, _⟩ := hv2
  obtain ⟨a3, cap3, b3, o3, rfl, hcp3, hmx3, hp3, hc3⟩ := hv3
  unfold maxLen at hmx1 hmx3
  have HC1 := Lib.hid hc1
  have HC3 := Lib.hid hc3
  have hLZ : (D.vars.zip vals).length = D.vars.length := by rw [List.length_zip, hl, Nat.min_self]
  have hLN := labels_len hl
  have HLN := Lib.hid hLN
  have hfl := fit_len D.cons
  have HL := Lib.hid hl
  clear hc1 hc3 hLN hl
  go_enter Tryz.func20, Tryz.ntmps20
  go_upto_region 1 with fail
  have hM := heap_alloc_new w (.cells #[.string D.name, .string D.help, .string D.unit, .slice a1 D.vars.length cap1, .slice a2 D.cons.length cap2] 25)
  have hb1 := (Below.refl _ w).alloc (Nat.le_refl _) (.cells #[.string D.name, .string D.help, .string D.unit, .slice a1 D.vars.length cap1, .slice a2 D.cons.length cap2] 25)
  generalize (w.alloc (.cells #[.string D.name, .string D.help, .string D.unit, .slice a1 D.vars.length cap1, .slice a2 D.cons.length cap2] 25)) = w1 at *
  have hP : w.heap.size < w1.heap.size := (Array.getElem?_eq_some_iff.1 hM).1
  have c4 : w1.cell? ⟨w.heap.size, 4, none⟩ = some (.slice a2 D.cons.length cap2) := by rw [Lib.cell_of_heap hM]; rfl
  have HM3 : Hid (∀ x, Below w1.heap.size w1 x → x.cell? ⟨w.heap.size, 3, none⟩ = some (.slice a1 D.vars.length cap1)) := Lib.hid (fun x hx => by rw [Lib.cell_of_heap ((Chg.of_below hx Non).obj hM (fun h => h))]; rfl)
  have HB1 := Lib.hid hb1
  have HN0 := Lib.hid (rowNewP w1 w1.heap.size (Nat.le_refl _))
  have HBA : Hid (Below w1.heap.size w1 (w1.alloc (.cells #[] 53))) := Lib.hid ((Below.refl _ _).alloc (Nat.le_refl _) _)
  have HF := Lib.hid (fitPairs _ D.cons (w1.alloc (.cells #[] 53)) (HV2.out.below (HB1.out.trans (HBA.out.mono HB1.out.size))) (by omega))
  have HLB : Hid (labelsOf D vals = fit (fit D.cons ++ D.vars.zip vals)) := Lib.hid rfl
  clear hM hb1
  generalize fit D.cons = F at *
  generalize hZ : D.vars.zip vals = Z at *
  have HZ := Lib.hid hZ
  clear hZ
  go_wp2_with (go_at_call 35; go_must (refine HF.out.mono ?_))
  rintro e w3 ⟨⟨fv, rfl, hf⟩, hb3⟩
  have hb3' : Below w1.heap.size w1 w3 := HBA.out.trans (hb3.mono HBA.out.size)
  have HN3 := Lib.hid ((Chg.of_below hb3 Non).row HN0.out (fun q _ h => h))
  have HB3 := Lib.hid hb3'
  have hs3 := hb3'.size
  have HFV := Lib.hid hf
  obtain ⟨fa, fc, rfl⟩ := hf.shape
  clear hb3 hb3' hf c4
  go_wp2_with (at_builtin; go_must (refine ap_ents rfl _ _ rfl rfl rfl HN3.out HFV.out (by omega) hs3 ?_))
  intro nv w4 ho4 hg4
  have hb4 : Below w1.heap.size w1 w4 := HB3.out.grown hg4 hs3 (fun q hq => (row_from HN3.out q hq).1)
  first | (rw [List.nil_append, Nat.zero_add] at ho4) | skip
  clear hg4
  obtain ⟨na, nc, rfl, hnc⟩ := own_shapeL ho4
  go_wp2_with fail
  go_loopw [5, 6] (fun o iv wx => ∃ k : Nat, k ≤ D.vars.length ∧ iv = .int .i64 (k : Int) ∧ wx.ownsRow w1.heap.size 53 2 o (F.length + k) (twoV (F ++ Z.take k)) ∧ Below w1.heap.size w1 wx) (fun _ iv _ => D.vars.length - (intOf iv).toNat)
  case atStart => exact ⟨0, Nat.zero_le _, rfl, by simpa using ho4, hb4⟩
  case round =>
    obtain ⟨k, hk, rfl, hown, hbr⟩ := hrel
    obtain ⟨ga, gc, rfl, hgc⟩ := own_shapeL hown
    have m3 := HM3.out _ hbr
    have HBR := Lib.hid hbr
    have HOWN := Lib.hid hown
    have hwr := hbr.size
    have hbw : Below w.heap.size w wr := HB1.out.trans (hbr.mono HB1.out.size)
    by_cases hlt : k < D.vars.length
    · have hlti : (k : Int) < (D.vars.length : Int) := by omega
      have hlt3 : k < vals.length := by have := HL.out; omega
      have hlti3 : (k : Int) < (vals.length : Int) := by omega
      obtain rfl : a1 = some ⟨b1, o1, none⟩ := by
        rcases hp1 with h | h
        · rw [h] at hlt; exact absurd hlt (Nat.not_lt_zero _)
        · exact h
      obtain rfl : a3 = some ⟨b3, o3, none⟩ := by
        rcases hp3 with h | h
        · rw [h] at hlt3; exact absurd hlt3 (Nat.not_lt_zero _)
        · exact h
      have c1 := HC1.out k D.vars[k] (List.getElem?_eq_getElem hlt)
      have c3 := HC3.out k vals[k] (List.getElem?_eq_getElem hlt3)
      have d1 := (hbw.cell (p := ⟨b1, o1 + k, none⟩) (World.block_lt_of_cell? w _ c1)).trans c1
      have d3 := (hbw.cell (p := ⟨b3, o3 + k, none⟩) (World.block_lt_of_cell? w _ c3)).trans c3
      have HTK : Hid (Z.take (k + 1) = Z.take k ++ [(D.vars[k], vals[k])]) := Lib.hid (by
        have hz : k < Z.length := by omega
        rw [List.take_succ_eq_append_getElem hz]
        have : Z[k] = (D.vars[k], vals[k]) := by
          have h1 := HZ.out
          subst h1
          exact List.getElem_zip
        rw [this])
      clear c1 c3 hbw hbr hown
      generalize D.vars[k] = s at *
      generalize vals[k] = t at *
      generalize Z.take k = Zk at *
      have HCN : Hid (∀ y, Chg Non wr y → y.ownsRow w1.heap.size 53 2 (.slice ga (F.length + k) gc) (F.length + k) (twoV (F ++ Zk))) := Lib.hid (fun y hy => hy.row HOWN.out (fun q _ h => h))
      go_upto_region 5 with fail
      go_region_law (refine step_append_lies _ (by rfl) _ _ _ (by rfl) w1.heap.size 53 z0 (.agg #[.string ⟨#[]⟩, .string ⟨#[]⟩]) 2 32 Tryz.underlying23 hzi hzz hzs hzb rfl (by omega) (.slice ga (F.length + k) gc) (F.length + k) (twoV (F ++ Zk)) (by rfl) (HCN.out _ (by repeat (first | exact Chg.refl _ _ | apply Chg.alloc | apply Chg.drew))) ⟨_, 0, none⟩ 1 1 [.string s, .string t] (by rfl) (by rfl) (World.news_of_block (cs := #[.string s, .string t]) (t := 53) (fr := (0, 0)) (at_new _ _ _ (by simp))) (twoV_one [(s, t)]) (by omega) (by unfold maxLen; omega) (by omega) (by simp; omega) _ rfl ?_; intro g9 cap9 w9 ho9 hg9 hat9 hlt9
                     have hb9 : Below w1.heap.size w1 w9 := Below.grown (by repeat (first | exact HBR.out | apply Below.drew | refine Bw.alloc ?_ (Nat.le_refl _) _)) hg9 (by simp; omega) (fun q hq => (row_from HOWN.out q hq).1)
                     have ho9' := Lib.hid ho9
                     clear hg9 hat9 ho9)
      all_goals go_wp2_with fail
      all_goals go_roundw
      all_goals first
        | exact ⟨k + 1, by omega, by go_num, by rw [HTK.out, ← List.append_assoc, twoV_app _ [_]]; exact ho9'.out, hb9⟩
        | (simp [intOf]; omega)
    · have hlti : ¬ (k : Int) < (D.vars.length : Int) := by omega
      have hkl : k = D.vars.length := by omega
      subst hkl
      have HRD : Hid (RdE wr (.slice ga (F.length + D.vars.length) gc) (F ++ Z)) := Lib.hid (by
        have := HOWN.out
        rw [List.take_of_length_le (by omega)] at this
        exact RdE.of_owns this)
      have HFP := Lib.hid (fitPairs _ (F ++ Z) wr HRD.out (by rw [List.length_append]; omega))
      have HBW := Lib.hid hbw
      clear hown hbr hbw
      go_wp2_with (go_at_call 35; go_must (refine HFP.out.mono ?_))
      rintro e w5 ⟨⟨gv, rfl, hg⟩, hb5⟩
      have HG := Lib.hid hg
      have hb6 := HBW.out.trans (hb5.mono HBW.out.size)
      clear hg hb5
      go_wp2_with fail
      go_ret
      exact ⟨⟨_, rfl, by rw [HLB.out]; exact HG.out⟩, hb6⟩
end Go.Proofs.YtojlpfakdodnfaaGreatDoor
