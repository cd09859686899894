/- SayMeta of the reference. -/
import Derived.Test.YtojlpfakdodnfaaGreatDoorDsc3
import Derived.Lib.ValidLaws
set_option linter.unusedVariables false
set_option linter.unusedSimpArgs false
namespace Go.Proofs.YtojlpfakdodnfaaGreatDoor
open Go.RowKit

def isLe (s : ByteArray) : Bool := s.toList == [108, 101]
def isQu (s : ByteArray) : Bool := s.toList == [113, 117, 97, 110, 116, 105, 108, 101]
def nameOk (s : ByteArray) : Bool := plain s && !isLe s && !isQu s
/-- A plain descriptor. -/
structure SayOk (D : Dsc) : Prop where
  name : plain D.name = true
  help : prnS D.help = true
  unit : D.unit.size = 0
  vals : (fit D.cons).all (fun p => prnS p.2) = true
  names : (D.vars ++ D.keys).all nameOk = true
  nodup : (D.vars ++ D.keys).Nodup
theorem vU_ascii {s : ByteArray} (h : ∀ b ∈ s.data.toList, b.toNat < 128) : vU s = true := by
  unfold vU
  rw [Lib.validD_ascii s.data.toList.length s.data.toList (fun b hb => h b (List.mem_of_mem_take hb)), List.drop_length]
  rfl
theorem vU_prn {s : ByteArray} (h : prnS s = true) : vU s = true := vU_ascii fun b hb => by
  have := List.all_eq_true.1 h b hb
  unfold prnU at this
  have := of_decide_eq_true (Bool.and_eq_true_iff.1 this).2
  omega
theorem letU_lt {c : UInt8} (h : letU c = true) : c.toNat < 128 := by
  unfold letU at h
  simp only [Bool.or_eq_true, Bool.and_eq_true, decide_eq_true_eq] at h
  omega
theorem plain_parts {s : ByteArray} (h : plain s = true) : 0 < s.size ∧ (∀ b ∈ s.data.toList, b.toNat < 128) ∧ Lib.hasPrefix s.data.toList [95, 95] = false := by
  unfold plain at h
  obtain ⟨h1, h2⟩ := Bool.and_eq_true_iff.1 h
  refine ⟨?_, ?_, by simpa using h2⟩
  · obtain ⟨⟨l⟩⟩ := s
    cases l with
    | nil => simp at h1
    | cons c r => show 0 < (c :: r).length; simp
  · obtain ⟨⟨l⟩⟩ := s
    cases l with
    | nil => intro b hb; simp at hb
    | cons c r =>
      obtain ⟨hc, hr⟩ := Bool.and_eq_true_iff.1 h1
      intro b hb
      rcases List.mem_cons.1 hb with rfl | hb
      · exact letU_lt hc
      · have := List.all_eq_true.1 hr b hb
        rcases Bool.or_eq_true_iff.1 this with h | h
        · exact letU_lt h
        · unfold digU at h
          have := of_decide_eq_true (Bool.and_eq_true_iff.1 h).2
          omega
theorem plain_okName {s : ByteArray} (h : plain s = true) : okName s = true := by
  obtain ⟨h1, h2, _⟩ := plain_parts h
  unfold okName
  rw [decide_eq_true h1, vU_ascii h2]; rfl
theorem plain_okLbl {s : ByteArray} (h : plain s = true) : okLbl s = true := by
  unfold okLbl
  rw [plain_okName h, (plain_parts h).2.2]; rfl
theorem nameOk_plain {s : ByteArray} (h : nameOk s = true) : plain s = true := by
  unfold nameOk at h
  exact (Bool.and_eq_true_iff.1 (Bool.and_eq_true_iff.1 h).1).1
theorem SayOk.desc {D : Dsc} (h : SayOk D) : descOk D = true := by
  have hall := List.all_eq_true.1 h.names
  have h1 : (fit D.cons).all (fun p => okLbl p.1) = true := List.all_eq_true.2 fun p hp => plain_okLbl (nameOk_plain (hall p.1 (List.mem_append_right _ (List.mem_map.2 ⟨p, hp, rfl⟩))))
  have h2 : (fit D.cons).all (fun p => vU p.2) = true := List.all_eq_true.2 fun p hp => vU_prn (List.all_eq_true.1 h.vals p hp)
  have h3 : D.vars.all okLbl = true := List.all_eq_true.2 fun x hx => plain_okLbl (nameOk_plain (hall x (List.mem_append_left _ hx)))
  have h4 : (D.keys ++ D.vars).Nodup := (List.perm_append_comm).nodup_iff.1 h.nodup
  unfold descOk
  rw [plain_okName h.name, h1, h2, h3, decide_eq_true h4]
  rfl
theorem nodup_snoc {xs : List ByteArray} {k : Nat} (hk : k < xs.length) (h : (xs.take k).Nodup) (hn : inB xs[k] (xs.take k) = false) : (xs.take (k + 1)).Nodup := by
  rw [List.take_succ_eq_append_getElem hk]
  refine List.nodup_append.2 ⟨h, List.pairwise_singleton _ _, fun a ha b hb e => ?_⟩
  rw [List.mem_singleton.1 hb] at e
  rw [e] at ha
  rw [inB_true ha] at hn
  cases hn
set_option maxHeartbeats 6400000 in
set_option maxRecDepth 100000 in
theorem sayK (D : Dsc) (v1 v2 : Value) (w : World) (hv1 : RdC Value.string w v1 D.vars) (hv2 : RdE w v2 D.cons) (hl1 : D.vars.length ≤ 4194304) (hl2 : D.cons.length ≤ 4194304) (hs0 : D.name.size ≤ 4194304 ∧ D.help.size ≤ 4194304) (hs1 : ∀ x ∈ D.vars, x.size ≤ 4194304) (hs2 : ∀ x ∈ D.cons, Tiny x) :
    Calls Tryz.prog 12 #[MetaV D.name D.help D.unit v1 v2] w fun e w' => SaidB (SayOk D) w w' e := by
  have HV1 := Lib.hid hv1
  have HV2 := Lib.hid hv2
  obtain ⟨z0, hzi, hzz, hzs, hzb⟩ := info_parts info_st
  have HS0 := Lib.hid hs0
  have HS1 := Lib.hid hs1
  have HS2 := Lib.hid hs2
  clear hs1 hs2
  obtain ⟨a1, cap1, b1, o1, rfl, _⟩ := hv1
  obtain ⟨a2, cap2, b2, o2, rfl, _⟩ := hv2
  go_enter Tryz.func12, Tryz.ntmps12
  go_upto_region 1 with fail
  have hM := heap_alloc_new w (.cells #[.string D.name, .string D.help, .string D.unit, .slice a1 D.vars.length cap1, .slice a2 D.cons.length cap2] 25)
  have hb1 := (Below.refl _ w).alloc (Nat.le_refl _) (.cells #[.string D.name, .string D.help, .string D.unit, .slice a1 D.vars.length cap1, .slice a2 D.cons.length cap2] 25)
  have hP : w.heap.size < (w.alloc (.cells #[.string D.name, .string D.help, .string D.unit, .slice a1 D.vars.length cap1, .slice a2 D.cons.length cap2] 25)).heap.size := by simp
  generalize (w.alloc (.cells #[.string D.name, .string D.help, .string D.unit, .slice a1 D.vars.length cap1, .slice a2 D.cons.length cap2] 25)) = w1 at *
  have c0 : w1.cell? ⟨w.heap.size, 0, none⟩ = some (.string D.name) := by rw [Lib.cell_of_heap hM]; rfl
  have c1 : w1.cell? ⟨w.heap.size, 1, none⟩ = some (.string D.help) := by rw [Lib.cell_of_heap hM]; rfl
  have c2 : w1.cell? ⟨w.heap.size, 2, none⟩ = some (.string D.unit) := by rw [Lib.cell_of_heap hM]; rfl
  have HPN := Lib.hid (plainK D.name (by unfold maxLen; omega) w1)
  have HAH := Lib.hid (ascii D.help w1 (by omega))
  have HB1 := Lib.hid hb1
  cases hpn : plain D.name with
  | false =>
    rw [hpn] at HPN
    clear hM hP hb1 hpn
    go_wp2_with (go_at_call 33; go_must (refine HPN.out.mono ?_); first | rintro e w5 rfl rfl | rintro e w5 ⟨rfl, rfl⟩)
    go_ret
    exact ⟨⟨_, rfl, fun h => by cases h⟩, HB1.out⟩
  | true =>
  rw [hpn] at HPN
  have HPT := Lib.hid hpn
  clear hpn
  cases hah : prnS D.help with
  | false =>
    rw [hah] at HAH
    clear hM hP hb1 hah
    go_wp2_with (first | (go_at_call 33; go_must (refine HPN.out.mono ?_); first | rintro e w5 rfl rfl | rintro e w5 ⟨rfl, rfl⟩) | (go_at_call 34; go_must (refine HAH.out.mono ?_); first | rintro e w5 rfl rfl | rintro e w5 ⟨rfl, rfl⟩))
    go_ret
    exact ⟨⟨_, rfl, fun h => by cases h⟩, HB1.out⟩
  | true =>
  rw [hah] at HAH
  have HAT := Lib.hid hah
  clear hah
  by_cases hu0 : D.unit.size = 0
  case neg =>
    have e0 := size_nonempty hu0
    clear hM hP hb1 hu0
    go_wp2_with (first | (go_at_call 33; go_must (refine HPN.out.mono ?_); first | rintro e w5 rfl rfl | rintro e w5 ⟨rfl, rfl⟩) | (go_at_call 34; go_must (refine HAH.out.mono ?_); first | rintro e w5 rfl rfl | rintro e w5 ⟨rfl, rfl⟩))
    go_ret
    exact ⟨⟨_, rfl, fun h => by cases h⟩, HB1.out⟩
  case pos =>
  have e0 := size_empty hu0
  have HU0 := Lib.hid hu0
  clear hu0
  have c3 : w1.cell? ⟨w.heap.size, 3, none⟩ = some (.slice a1 D.vars.length cap1) := by rw [Lib.cell_of_heap hM]; rfl
  have HN0 := Lib.hid (rowNew w1 w.heap.size hb1.size)
  have hb1' := hb1.alloc hb1.size (.cells #[] 9)
  have HVA := Lib.hid (HV1.out.below hb1')
  have HB1' := Lib.hid hb1'
  have HM := Lib.hid hM
  have hs1 := hb1'.size
  clear hM hb1'
  go_upto_region 3 with (first | (go_at_call 33; go_must (refine HPN.out.mono ?_); first | rintro e w5 rfl rfl | rintro e w5 ⟨rfl, rfl⟩) | (go_at_call 34; go_must (refine HAH.out.mono ?_); first | rintro e w5 rfl rfl | rintro e w5 ⟨rfl, rfl⟩))
  clear c0 c1 c2 HPN HAH
  go_wp2_with (at_builtin; go_must (refine ap_strs rfl _ _ rfl rfl rfl HN0.out HVA.out (by omega) hs1 ?_))
  intro nv w2 ho2 hg2
  have hb2 : Below w.heap.size w w2 := HB1'.out.grown hg2 hs1 (fun q hq => by injection hq with hq; rw [← hq]; exact hb1.size)
  have hM2 : w2.heap[w.heap.size]? = _ := (hg2.block w.heap.size (by simp; omega) (fun e => by injection e with e; have : w.heap.size = w1.heap.size := e; omega)).trans ((Below.heap_alloc _ _ _ hP).trans HM.out)
  have c4 : w2.cell? ⟨w.heap.size, 4, none⟩ = some (.slice a2 D.cons.length cap2) := by rw [Lib.cell_of_heap hM2]; rfl
  have HF := Lib.hid (fitPairsO _ D.cons w2 (HV2.out.below hb2) hl2)
  have HO2 := Lib.hid ho2
  have HB2 := Lib.hid hb2
  clear hg2 c3 hM2 ho2 hb1 hP
  go_wp2_with (go_at_call 35; go_must (refine HF.out.mono ?_))
  rintro e w3 ⟨⟨fv, rfl, hf⟩, hb3⟩
  have hF := fit_len D.cons
  generalize hFF : fit D.cons = F at *
  have HFF := Lib.hid hFF
  have ho3 := (Chg.of_below hb3 Non).row HO2.out (fun q _ h => h)
  have hw3 := HB2.out.trans (hb3.mono HB2.out.size)
  have HSN : Hid (∀ q, nv.ownBlock = some q → q < w2.heap.size) := Lib.hid (fun q hq => (row_from HO2.out q hq).2)
  have HFR := Lib.hid hf
  have HFN : Hid (∀ q, fv.ownBlock = some q → ¬ nv.ownBlock = some q) := Lib.hid (fun q hq e => by have := HSN.out q e; have := (row_from hf q hq).1; omega)
  have HB3 := Lib.hid hw3
  have HW32 : Hid (w2.heap.size ≤ w3.heap.size) := Lib.hid hb3.size
  obtain ⟨a4, c4', rfl, hc4⟩ := own_shapeL hf
  clear hf hb3 hFF c4
  go_upto_block 0 with fail
  go_cut [3] (fun v wx => wx.ownsRow w.heap.size 9 1 v (D.vars.length + F.length) ((D.vars ++ F.map (·.1)).map Value.string) ∧ Below w.heap.size w wx ∧ Hid (F.all (fun p => prnS p.2) = true))
  case first =>
    go_wp2_with fail
    go_loopw [3, 5] (fun v iv wx => ∃ k : Nat, k ≤ F.length ∧ iv = .int .i64 (k : Int) ∧ wx.ownsRow w.heap.size 9 1 v (D.vars.length + k) ((D.vars ++ (F.take k).map (·.1)).map Value.string) ∧ Chg (fun i => nv.ownBlock = some i) w3 wx ∧ Hid (∀ q, v.ownBlock = some q → nv.ownBlock = some q ∨ w3.heap.size ≤ q) ∧ Hid ((F.take k).all (fun p => prnS p.2) = true)) (fun _ iv _ => F.length - (intOf iv).toNat)
    case atStart => exact ⟨0, Nat.zero_le _, rfl, by simpa using ho3, Chg.refl _ _, Lib.hid (fun q hq => .inl hq), Lib.hid rfl⟩
    case round =>
      obtain ⟨k, hk, rfl, hown, hch, HLO, HALL⟩ := hrel
      have HCH := Lib.hid hch
      have hbr : Below w.heap.size w wr := HB3.out.trans (hch.below (fun i hi => (row_from HO2.out i hi).1) HB3.out.size)
      by_cases hlt : k < F.length
      · have hlti : (k : Int) < (F.length : Int) := by omega
        have hfr := hch.row HFR.out HFN.out
        obtain ⟨g, rfl, hBg, hgl, q1, q2, q3⟩ := own_cellsE hfr (List.getElem?_eq_getElem hlt)
        have HTK : Hid ((D.vars ++ (F.take (k + 1)).map (·.1)).map Value.string = (D.vars ++ (F.take k).map (·.1)).map Value.string ++ [.string F[k].1]) := Lib.hid (by rw [List.take_succ_eq_append_getElem hlt]; simp only [List.map_append, List.append_assoc]; rfl)
        have HFK : Hid (∀ p, F[k] = p → (F.take (k + 1)).all (fun p => prnS p.2) = prnS p.2) := Lib.hid (fun p hp => by rw [List.take_succ_eq_append_getElem hlt, List.all_append, HALL.out, hp]; simp)
        have HFN2 : Hid (prnS F[k].2 = false → F.all (fun p => prnS p.2) = false) := Lib.hid (fun h => by rw [List.all_eq_false]; exact ⟨_, List.getElem_mem hlt, by rw [h]; simp⟩)
        have hfz : F[k].2.size ≤ 4194304 := by
          have hm : F[k] ∈ F := List.getElem_mem hlt
          have hm2 : F[k] ∈ fit D.cons := by rw [HFF.out]; exact hm
          exact (HS2.out _ (fit_look_mem hm2)).2
        have HFK2 := Lib.hid (HFK.out _ rfl)
        clear HFK
        generalize F[k] = p at *
        obtain ⟨x, xt⟩ := p
        simp only at q1 q2 HTK HFK2 HFN2 hfz
        have hwr := hbr.size
        have HAS := Lib.hid (ascii xt wr (by omega))
        cases hpx : prnS xt with
        | false =>
          rw [hpx] at HAS
          clear hfr q3 ho3 hown hch hpx
          go_wp2_with (go_at_call 34; go_must (refine HAS.out.mono ?_); first | rintro e w5 rfl rfl | rintro e w5 ⟨rfl, rfl⟩)
          go_ret
          exact ⟨⟨_, rfl, fun h => by cases h⟩, hbr⟩
        | true =>
        rw [hpx] at HAS HFK2
        clear hpx
        clear hfr q3 ho3
        go_upto_region 10 with (go_at_call 34; go_must (refine HAS.out.mono ?_); first | rintro e w5 rfl rfl | rintro e w5 ⟨rfl, rfl⟩)
        go_wp2_with (at_builtin; go_must (refine wpList_append_own_at _ rfl _ _ 22 rfl w.heap.size 9 z0 (.string ⟨#[]⟩) 1 16 Tryz.underlying22 hzi hzz hzs hzb rfl (by decide) _ _ _ rfl (hown.alloc _) ⟨wr.heap.size, 0, none⟩ 1 1 [.string x] rfl rfl (cell_one_new _ _ _) (by simp [Value.oneCell']) (by unfold maxLen; omega) (by omega) (by simp; omega) ?_))
        intro v' wz hown3 hg3 hnil hloc
        have hch3 : Chg (fun i => nv.ownBlock = some i) w3 wz := HCH.out.grown ((World.grownBy_alloc wr _ _).trans hg3) (fun q hq => HLO.out q hq)
        have HLO3 : Hid (∀ q, v'.ownBlock = some q → nv.ownBlock = some q ∨ w3.heap.size ≤ q) := Lib.hid (fun q hq => by
          rcases hloc with h | h
          · exact HLO.out q (h.symm.trans hq)
          · rw [h] at hq; injection hq with hq; rw [← hq]; exact .inr (by have := HCH.out.size; simp; omega))
        clear hown hch hg3 hnil hloc
        go_wp2_with fail
        go_roundw
        case rel => exact ⟨k + 1, by omega, by go_num, by rw [HTK.out, ← Nat.add_assoc]; simpa using hown3, hch3, HLO3, HFK2⟩
        case measure => simp [intOf]; omega
      · have hlti : ¬ (k : Int) < (F.length : Int) := by omega
        obtain rfl : k = F.length := by omega
        rw [List.take_length] at hown
        clear ho3 hch
        go_wp2_with fail
        go_meet
        case rel => exact ⟨hown, hbr, Lib.hid (by have := HALL.out; rwa [List.take_length] at this)⟩
  case rest =>
    obtain ⟨hown, hbr, HVAL⟩ := hcut
    generalize wc = w5 at *
    have hnl : (D.vars ++ F.map (·.1)).length = D.vars.length + F.length := by simp
    clear ho3 hw3
    generalize hnn : D.vars ++ F.map (·.1) = names at *
    rw [← hnl] at hown
    have hnl2 : names.length ≤ 8388608 := by omega
    clear hnl
    obtain ⟨a5, c5, rfl, hc5⟩ := own_shapeL hown
    go_wp2_with fail
    go_loopw [6] (fun iv wx => ∃ k : Nat, k ≤ names.length ∧ iv = .int .i64 (k : Int) ∧ wx.ownsRow w.heap.size 9 1 (.slice a5 names.length c5) names.length (names.map Value.string) ∧ Below w.heap.size w wx ∧ Hid ((names.take k).all nameOk = true) ∧ Hid ((names.take k).Nodup)) (fun iv _ => names.length - (intOf iv).toNat)
    case atStart => exact ⟨0, Nat.zero_le _, rfl, hown, hbr, Lib.hid rfl, Lib.hid List.nodup_nil⟩
    case round =>
      obtain ⟨k, hk, rfl, hown6, hb6, HNO, HND0⟩ := hrel
      by_cases hlt : k < names.length
      · have hlti : (k : Int) < (names.length : Int) := by omega
        obtain ⟨N, cN, e1⟩ := row_shape hown6 (by omega)
        injection e1 with e1 _ e3
        subst e1 e3
        have ck : wr.cell? ⟨N, k, none⟩ = some (.string names[k]) := (row_at hown6).2.2.2.2 k _ (by rw [List.getElem?_map, List.getElem?_eq_getElem hlt]; rfl)
        have hkc : k ≤ c5 := by omega
        have hkci : (k : Int) ≤ (c5 : Int) := by omega
        have HIN : Hid (∀ m, Calls Tryz.prog 36 #[.string names[k], .slice (some ⟨N, 0, none⟩) k c5] (wr.drewN m) fun e w' => e = .returned (.bool (inB names[k] (names.take k))) ∧ (wr.drewN m) = w') := Lib.hid (fun m => inK _ _ _ _ (rdC_take (((Chg.refl Non wr).drewN m).row hown6 (fun q _ h => h)) k hk))
        have HPL : Hid (∀ m, Calls Tryz.prog 33 #[.string names[k]] (wr.drewN m) fun e w' => e = .returned (.bool (plain names[k])) ∧ (wr.drewN m) = w') := Lib.hid (fun m => plainK _ (by
          have hm : names[k] ∈ D.vars ++ F.map (·.1) := by rw [hnn]; exact List.getElem_mem hlt
          have hz : names[k].size ≤ 4194304 := by
            rcases List.mem_append.1 hm with hm | hm
            · exact HS1.out _ hm
            · obtain ⟨y, hy, e⟩ := List.mem_map.1 hm
              rw [← HFF.out] at hy
              rw [← e]; exact (HS2.out _ (fit_look_mem hy)).1
          unfold maxLen; omega) _)
        have HNX : Hid (nameOk names[k] = true → inB names[k] (names.take k) = false → (names.take (k + 1)).all nameOk = true ∧ (names.take (k + 1)).Nodup) := Lib.hid (fun h1 h2 => ⟨by rw [List.take_succ_eq_append_getElem hlt, List.all_append, HNO.out]; simp [h1], nodup_snoc hlt HND0.out h2⟩)
        have HOW := Lib.hid hown6
        generalize names[k] = x at *
        generalize inB x (names.take k) = bb at *
        have HNM : Hid (nameOk x = (plain x && !isLe x && !isQu x)) := Lib.hid rfl
        unfold isLe isQu at HNM
        generalize nameOk x = nx at *
        clear hown hown6 hbr hnn
        cases hpl : plain x
        all_goals cases hle : (x.toList == [108, 101])
        all_goals cases hqu : (x.toList == [113, 117, 97, 110, 116, 105, 108, 101])
        all_goals cases bb
        all_goals
          rw [hpl] at HPL HNM
          rw [hle, hqu] at HNM
          clear hpl
          go_upto_region 14 with fail
          go_quiet (first | (go_at_call 36; exact qsame (HIN.out _)) | (go_at_call 33; exact qsame (HPL.out _)))
          first
            | (go_wp2_with fail
               go_ret
               exact ⟨⟨_, rfl, fun h => by cases h⟩, below_drewN hb6 _⟩)
            | (have HX := HNX.out HNM.out rfl
               have HX1 := Lib.hid HX.1
               have HX2 := Lib.hid HX.2
               clear HX
               go_wp2_with fail
               go_roundw
               case rel => exact ⟨k + 1, by omega, by go_num, ((Chg.refl Non wr).drewN _).row HOW.out (fun q _ h => h), below_drewN hb6 _, HX1, HX2⟩
               case measure => simp [intOf]; omega)
      · have hlti : ¬ (k : Int) < (names.length : Int) := by omega
        have HSAY : Hid (SayOk D) := Lib.hid (by
          have h1 := HNO.out
          have h2 := HND0.out
          rw [List.take_of_length_le (by omega)] at h1 h2
          rw [← hnn, ← HFF.out] at h1 h2
          exact ⟨HPT.out, HAT.out, HU0.out, by rw [HFF.out]; exact HVAL.out, h1, h2⟩)
        clear hown hown6 hbr
        go_wp2_with fail
        go_ret
        exact ⟨⟨_, rfl, fun _ => HSAY.out⟩, hb6⟩
end Go.Proofs.YtojlpfakdodnfaaGreatDoor
