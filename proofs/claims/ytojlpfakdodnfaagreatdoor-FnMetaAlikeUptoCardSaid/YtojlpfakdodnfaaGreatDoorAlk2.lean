/- DescAlike of the reference. -/
import Derived.Test.YtojlpfakdodnfaaGreatDoorAlk
import Derived.Test.YtojlpfakdodnfaaGreatDoorMet
import Derived.Test.YtojlpfakdodnfaaGreatDoorAlk3a
set_option linter.unusedVariables false
set_option linter.unusedSimpArgs false
namespace Go.Proofs.YtojlpfakdodnfaaGreatDoor
open Go.RowKit

theorem keys_ne {X Y : List ByteArray} {k : Nat} {x y : ByteArray} (hx : X[k]? = some x) (hy : Y[k]? = some y) (h : x ≠ y) : ¬ X.map bs = Y.map bs := by
  intro e
  have := map_bs_inj e
  subst this
  rw [hx] at hy
  exact h (Option.some.inj hy)
theorem bneB (a b : ByteArray) : (a.toList != b.toList) = !decide (a = b) := by rw [← eqB]; rfl
set_option maxHeartbeats 6400000 in
set_option maxRecDepth 100000 in
theorem alikeK (A B : Dsc) (v1 v2 v3 v4 : Value) (w : World) (ha1 : RdC Value.string w v1 A.vars) (ha2 : RdE w v2 A.cons) (hb1 : RdC Value.string w v3 B.vars) (hb2 : RdE w v4 B.cons) (hlA : A.cons.length ≤ 4194304) (hlB : B.cons.length ≤ 4194304) :
    Calls Tryz.prog 14 #[MetaV A.name A.help A.unit v1 v2, MetaV B.name B.help B.unit v3 v4] w fun e w' => e = .returned (.bool (alikeB A B)) ∧ Below w.heap.size w w' := by
  have HA1 := Lib.hid ha1
  have HA2 := Lib.hid ha2
  have HB1 := Lib.hid hb1
  have HB2 := Lib.hid hb2
  obtain ⟨p1, c1, b1, o1, rfl, hcp1, hmx1, hp1, hc1⟩ := ha1
  unfold maxLen at hmx1
  have hfl := fit_len A.cons
  obtain ⟨p2, c2, b2, o2, rfl, _⟩ := ha2
  obtain ⟨p3, c3, b3, o3, rfl, _⟩ := hb1
  obtain ⟨p4, c4, b4, o4, rfl, _⟩ := hb2
  have HC1 := Lib.hid hc1
  clear hc1
  go_enter Tryz.func14, Tryz.ntmps14
  go_upto_region 1 with fail
  have hZ := heap_alloc2_new w (.cells #[.string A.name, .string A.help, .string A.unit, .slice p1 A.vars.length c1, .slice p2 A.cons.length c2] 25) (.cells #[.string B.name, .string B.help, .string B.unit, .slice p3 B.vars.length c3, .slice p4 B.cons.length c4] 25)
  have hA := (Below.heap_alloc (w.alloc (.cells #[.string A.name, .string A.help, .string A.unit, .slice p1 A.vars.length c1, .slice p2 A.cons.length c2] 25)) (.cells #[.string B.name, .string B.help, .string B.unit, .slice p3 B.vars.length c3, .slice p4 B.cons.length c4] 25) w.heap.size (by simp)).trans (heap_alloc_new w (.cells #[.string A.name, .string A.help, .string A.unit, .slice p1 A.vars.length c1, .slice p2 A.cons.length c2] 25))
  have hbw := ((Below.refl _ w).alloc (Nat.le_refl _) (.cells #[.string A.name, .string A.help, .string A.unit, .slice p1 A.vars.length c1, .slice p2 A.cons.length c2] 25)).alloc (by simp) (.cells #[.string B.name, .string B.help, .string B.unit, .slice p3 B.vars.length c3, .slice p4 B.cons.length c4] 25)
  generalize ((w.alloc (.cells #[.string A.name, .string A.help, .string A.unit, .slice p1 A.vars.length c1, .slice p2 A.cons.length c2] 25)).alloc (.cells #[.string B.name, .string B.help, .string B.unit, .slice p3 B.vars.length c3, .slice p4 B.cons.length c4] 25)) = w1 at *
  have HBW := Lib.hid hbw
  have KS : Hid (∀ x, TB w1 x → (x.cell? ⟨w.heap.size, 1, none⟩ = some (.string A.help) ∧ x.cell? ⟨w.heap.size, 2, none⟩ = some (.string A.unit) ∧ x.cell? ⟨w.heap.size, 3, none⟩ = some (.slice p1 A.vars.length c1) ∧ x.cell? ⟨w.heap.size, 4, none⟩ = some (.slice p2 A.cons.length c2) ∧ x.cell? ⟨w.heap.size + 1, 1, none⟩ = some (.string B.help) ∧ x.cell? ⟨w.heap.size + 1, 2, none⟩ = some (.string B.unit) ∧ x.cell? ⟨w.heap.size + 1, 3, none⟩ = some (.slice p3 B.vars.length c3) ∧ x.cell? ⟨w.heap.size + 1, 4, none⟩ = some (.slice p4 B.cons.length c4))) := Lib.hid (fun x hx => by
    have h := (Chg.of_below hx Non).obj hA (fun h => h)
    have k := (Chg.of_below hx Non).obj hZ (fun h => h)
    exact ⟨by rw [Lib.cell_of_heap h]; rfl, by rw [Lib.cell_of_heap h]; rfl, by rw [Lib.cell_of_heap h]; rfl, by rw [Lib.cell_of_heap h]; rfl, by rw [Lib.cell_of_heap k]; rfl, by rw [Lib.cell_of_heap k]; rfl, by rw [Lib.cell_of_heap k]; rfl, by rw [Lib.cell_of_heap k]; rfl⟩)
  have HFF : Hid (∀ x v ys, TB w1 x → (v = .slice p2 A.cons.length c2 ∧ ys = fit A.cons ∨ v = .slice p4 B.cons.length c4 ∧ ys = fit B.cons) → Calls Tryz.prog 35 #[v] x fun e w' => SaidP ys x w' e) := Lib.hid (fun x v ys hx h => by
    have hb := HBW.out.trans (Below.mono hx HBW.out.size)
    rcases h with ⟨rfl, rfl⟩ | ⟨rfl, rfl⟩
    · exact fitPairs _ _ x (HA2.out.below hb) hlA
    · exact fitPairs _ _ x (HB2.out.below hb) hlB)
  clear hA hZ hbw
  go_cut [5, 6] (fun x5 x6 wx => ∃ (q5 q6 : Option Addr) (n5 n6 : Nat), x5 = .slice q5 (fit A.cons).length n5 ∧ x6 = .slice q6 (fit B.cons).length n6 ∧ RdE wx (.slice q5 (fit A.cons).length n5) (fit A.cons) ∧ RdE wx (.slice q6 (fit B.cons).length n6) (fit B.cons) ∧ TB w1 wx)
  case first =>
    generalize fit A.cons = FA at *
    generalize fit B.cons = FB at *
    go_region_held3 (fun x => x.cell? ⟨w.heap.size, 4, none⟩ = some (.slice p2 A.cons.length c2) ∧ x.cell? ⟨w.heap.size + 1, 4, none⟩ = some (.slice p4 B.cons.length c4))
      (exact ⟨(KS.out _ (by repeat (first | assumption | exact TB.refl _ | apply TB.drew | refine TB.stp (by assumption) ?_))).2.2.2.1, (KS.out _ (by repeat (first | assumption | exact TB.refl _ | apply TB.drew | refine TB.stp (by assumption) ?_))).2.2.2.2.2.2.2⟩)
      ((go_at_call 35
        refine (HFF.out _ _ _ (by repeat (first | assumption | exact TB.refl _ | apply TB.drew | refine TB.stp (by assumption) ?_)) (by first | exact .inl ⟨rfl, rfl⟩ | exact .inr ⟨rfl, rfl⟩)).mono ?_
        rintro e wa ⟨⟨va, rfl, hva⟩, hba⟩
        obtain ⟨qa, na, rfl⟩ := hva.shape
        have kva := KE.mk hva
        clear hva
        have hsa : Stp _ wa := hba
        clear hba))
    all_goals go_wp2_with fail
    all_goals go_meet
    all_goals first
      | exact ⟨_, _, _, _, rfl, rfl, KE.rd (by repeat (first | assumption | apply KE.drew | refine KE.stp (by assumption) ?_)), KE.rd (by repeat (first | assumption | apply KE.drew | refine KE.stp (by assumption) ?_)), by repeat (first | assumption | exact TB.refl _ | apply TB.drew | refine TB.stp (by assumption) ?_)⟩
      | trace_state
  case rest =>
    obtain ⟨q5, q6, n5, n6, rfl, rfl, hE5, hE6, hbc⟩ := hcut
    generalize wc = w5 at *
    obtain ⟨k1, k2, k3, _, l1, l2, l3, _⟩ := KS.out _ hbc
    have HBC := Lib.hid hbc
    have HE5 := Lib.hid hE5
    have HE6 := Lib.hid hE6
    have HFIN : Hid (Below w.heap.size w w5) := Lib.hid (HBW.out.trans (Below.mono hbc HBW.out.size))
    have HKL : Hid (A.keys.length = (fit A.cons).length ∧ B.keys.length = (fit B.cons).length) := Lib.hid ⟨by unfold Dsc.keys; simp, by unfold Dsc.keys; simp⟩
    clear hE5 hE6 hbc HFF
    by_cases hh : A.help = B.help
    case neg =>
      have e1 : (A.help.toList == B.help.toList) = false := by rw [eqB, decide_eq_false hh]
      have HR : Hid (alikeB A B = false) := Lib.hid (by unfold alikeB; rw [decide_eq_false hh]; rfl)
      clear hh
      go_wp2_with fail
      go_ret
      exact ⟨ret_bool HR.out.symm, HFIN.out⟩
    case pos =>
    have e1 : (A.help.toList == B.help.toList) = true := by rw [eqB, decide_eq_true hh]
    have HH := Lib.hid hh
    clear hh
    by_cases hu : A.unit = B.unit
    case neg =>
      have e2 : (A.unit.toList == B.unit.toList) = false := by rw [eqB, decide_eq_false hu]
      have HR : Hid (alikeB A B = false) := Lib.hid (by unfold alikeB; rw [decide_eq_false hu, Bool.and_false]; rfl)
      clear hu
      go_wp2_with fail
      go_ret
      exact ⟨ret_bool HR.out.symm, HFIN.out⟩
    case pos =>
    have e2 : (A.unit.toList == B.unit.toList) = true := by rw [eqB, decide_eq_true hu]
    have HU := Lib.hid hu
    clear hu
    by_cases hv : A.vars.length = B.vars.length
    case neg =>
      have e3 : ((A.vars.length : Int) != (B.vars.length : Int)) = true := by simp; omega
      have HR : Hid (alikeB A B = false) := Lib.hid (by unfold alikeB; rw [decide_eq_false hv, Bool.and_false]; rfl)
      clear hv
      go_wp2_with fail
      go_ret
      exact ⟨ret_bool HR.out.symm, HFIN.out⟩
    case pos =>
    have e3 : ((A.vars.length : Int) != (B.vars.length : Int)) = false := by simp; omega
    have HV := Lib.hid hv
    clear hv
    by_cases hk : (fit A.cons).length = (fit B.cons).length
    case neg =>
      have e4 : (((fit A.cons).length : Int) != ((fit B.cons).length : Int)) = true := by simp; omega
      have HR : Hid (alikeB A B = false) := Lib.hid (by unfold alikeB; rw [decide_eq_false (p := A.keys.length = B.keys.length) (by rw [HKL.out.1, HKL.out.2]; exact hk), Bool.and_false]; rfl)
      clear hk
      go_wp2_with fail
      go_ret
      exact ⟨ret_bool HR.out.symm, HFIN.out⟩
    case pos =>
    have e4 : (((fit A.cons).length : Int) != ((fit B.cons).length : Int)) = false := by simp; omega
    have HK := Lib.hid hk
    clear hk
    go_wp2_with fail
    go_loopw [7] (fun iv wx => ∃ k : Nat, k ≤ A.vars.length ∧ iv = .int .i64 (k : Int) ∧ Hid (∀ x ∈ A.vars.take k, inB x B.vars = true) ∧ Below w5.heap.size w5 wx) (fun iv _ => A.vars.length - (intOf iv).toNat)
    case atStart => exact ⟨0, Nat.zero_le _, rfl, Lib.hid (by simp), Below.refl _ _⟩
    case round =>
      obtain ⟨k, hkk, rfl, HIN0, hb6⟩ := hrel
      have HB6 := Lib.hid hb6
      have hb7 : Below w.heap.size w wr := HFIN.out.trans (hb6.mono HFIN.out.size)
      obtain ⟨_, _, k3, _, _, _, l3, _⟩ := KS.out _ (TB.stp hb6 HBC.out)
      by_cases hlt : k < A.vars.length
      · have hlti : (k : Int) < (A.vars.length : Int) := by omega
        obtain rfl : p1 = some ⟨b1, o1, none⟩ := by
          rcases hp1 with h | h
          · rw [h] at hlt; exact absurd hlt (Nat.not_lt_zero _)
          · exact h
        have c1 := HC1.out k A.vars[k] (List.getElem?_eq_getElem hlt)
        have c2 := (hb7.cell (p := ⟨b1, o1 + k, none⟩) (World.block_lt_of_cell? w _ c1)).trans c1
        have HIN : Hid (∀ m, Calls Tryz.prog 36 #[.string A.vars[k], .slice p3 B.vars.length c3] (wr.drewN m) fun e w' => e = .returned (.bool (inB A.vars[k] B.vars)) ∧ (wr.drewN m) = w') := Lib.hid (fun m => inK _ _ _ _ (HB1.out.below (below_drewN hb7 m)))
        have HT : Hid (inB A.vars[k] B.vars = true → ∀ x ∈ A.vars.take (k + 1), inB x B.vars = true) := Lib.hid (fun h x hx => by
          rw [List.take_succ_eq_append_getElem hlt] at hx
          rcases List.mem_append.1 hx with hx | hx
          · exact HIN0.out x hx
          · rw [List.mem_singleton.1 hx]; exact h)
        have HF : Hid (inB A.vars[k] B.vars = false → alikeB A B = false) := Lib.hid (fun h => by
          have h2 : A.vars.all (fun x => inB x B.vars) = false := List.all_eq_false.2 ⟨A.vars[k], List.getElem_mem hlt, by rw [h]; simp⟩
          unfold alikeB; rw [h2, Bool.and_false]; rfl)
        generalize A.vars[k] = x at *
        generalize inB x B.vars = bb at *
        clear c1 hb6 hb7
        go_upto_region 7 with fail
        go_quiet ((go_at_call 36; exact qsame (HIN.out _)))
        cases bb with
        | false =>
          have HF2 := Lib.hid (HF.out rfl)
          go_wp2_with fail
          go_ret
          exact ⟨ret_bool HF2.out.symm, HFIN.out.trans ((below_drewN HB6.out _).mono HFIN.out.size)⟩
        | true =>
          have HT2 := Lib.hid (HT.out rfl)
          go_wp2_with fail
          go_roundw
          case rel => exact ⟨k + 1, by omega, by go_num, HT2, below_drewN HB6.out _⟩
          case measure => simp [intOf]; omega
      · have hlti : ¬ (k : Int) < (A.vars.length : Int) := by omega
        have HALL : Hid (∀ x ∈ A.vars, inB x B.vars = true) := Lib.hid (by have := HIN0.out; rwa [List.take_of_length_le (by omega)] at this)
        clear hb6 hb7 HIN0
        generalize wr = w6 at *
        go_wp2_with fail
        go_loopw [8] (fun iv wx => ∃ k : Nat, k ≤ (fit A.cons).length ∧ iv = .int .i64 (k : Int) ∧ Hid ((A.keys.take k).map bs = (B.keys.take k).map bs) ∧ Below w5.heap.size w5 wx) (fun iv _ => (fit A.cons).length - (intOf iv).toNat)
        case atStart => exact ⟨0, Nat.zero_le _, rfl, Lib.hid (by simp), HB6.out⟩
        case round =>
          obtain ⟨k, hkk, rfl, HEQ, hb8⟩ := hrel
          have HB8 := Lib.hid hb8
          by_cases hlt : k < (fit A.cons).length
          · have hlti : (k : Int) < ((fit A.cons).length : Int) := by omega
            have hlt2 : k < (fit B.cons).length := by have := HK.out; omega
            have hlti2 : (k : Int) < ((fit B.cons).length : Int) := by omega
            have h5 := HE5.out.below hb8
            have h6 := HE6.out.below hb8
            obtain ⟨a5, cc5, bb5, oo5, e5, _, _, r5, s5⟩ := h5
            obtain ⟨a6, cc6, bb6, oo6, e6, _, _, r6, s6⟩ := h6
            injection e5 with e5 _ e5'
            injection e6 with e6 _ e6'
            subst e5 e5' e6 e6'
            obtain rfl : q5 = some ⟨bb5, oo5, none⟩ := by
              rcases r5 with h | h
              · rw [h] at hlt; exact absurd hlt (Nat.not_lt_zero _)
              · exact h
            obtain rfl : q6 = some ⟨bb6, oo6, none⟩ := by
              rcases r6 with h | h
              · rw [h] at hlt2; exact absurd hlt2 (Nat.not_lt_zero _)
              · exact h
            have d1 := (s5 k _ (List.getElem?_eq_getElem hlt)).1
            have d2 := (s6 k _ (List.getElem?_eq_getElem hlt2)).1
            have HX : Hid (A.keys[k]? = some (fit A.cons)[k].1) := Lib.hid (by unfold Dsc.keys; rw [List.getElem?_map, List.getElem?_eq_getElem hlt]; rfl)
            have HY : Hid (B.keys[k]? = some (fit B.cons)[k].1) := Lib.hid (by unfold Dsc.keys; rw [List.getElem?_map, List.getElem?_eq_getElem hlt2]; rfl)
            have hlk : k < A.keys.length ∧ k < B.keys.length := by have := HKL.out; omega
            have HS : Hid ((fit A.cons)[k].1 = (fit B.cons)[k].1 → (A.keys.take (k + 1)).map bs = (B.keys.take (k + 1)).map bs) := Lib.hid (fun h => by
              have x1 : A.keys[k]'hlk.1 = (fit A.cons)[k].1 := (List.getElem?_eq_some_iff.1 HX.out).2
              have x2 : B.keys[k]'hlk.2 = (fit B.cons)[k].1 := (List.getElem?_eq_some_iff.1 HY.out).2
              rw [List.take_succ_eq_append_getElem hlk.1, List.take_succ_eq_append_getElem hlk.2, List.map_append, List.map_append, HEQ.out, x1, x2, h])
            have HF : Hid ((fit A.cons)[k].1 ≠ (fit B.cons)[k].1 → alikeB A B = false) := Lib.hid (fun h => by
              unfold alikeB; rw [decide_eq_false (keys_ne HX.out HY.out h), Bool.and_false])
            clear HX HY hlk s5 s6 r5 r6
            generalize (fit A.cons)[k].1 = x at *
            generalize (fit B.cons)[k].1 = y at *
            go_upto_region 12 with fail
            by_cases hxy : x = y
            · have e9 : (x.toList == y.toList) = true := by rw [eqB, decide_eq_true hxy]
              have HS2 := Lib.hid (HS.out hxy)
              clear hxy HS HF hb8
              go_quiet (fail)
              go_wp2_with fail
              go_roundw
              case rel => exact ⟨k + 1, by omega, by go_num, HS2, below_drewN HB8.out _⟩
              case measure => simp [intOf]; omega
            · have e9 : (x.toList == y.toList) = false := by rw [eqB, decide_eq_false hxy]
              have HF2 := Lib.hid (HF.out hxy)
              clear hxy HS HF hb8
              go_quiet (fail)
              go_wp2_with fail
              go_ret
              exact ⟨ret_bool HF2.out.symm, HFIN.out.trans ((below_drewN HB8.out _).mono HFIN.out.size)⟩
          · have hlti : ¬ (k : Int) < ((fit A.cons).length : Int) := by omega
            have HR : Hid (alikeB A B = true) := Lib.hid (by
              have h1 : A.keys.map bs = B.keys.map bs := by
                have := HEQ.out
                have h2 := HKL.out
                have h3 := HK.out
                rwa [List.take_of_length_le (by omega), List.take_of_length_le (by omega)] at this
              unfold alikeB
              rw [decide_eq_true HH.out, decide_eq_true HU.out, decide_eq_true HV.out, decide_eq_true (p := A.keys.length = B.keys.length) (by rw [HKL.out.1, HKL.out.2]; exact HK.out), decide_eq_true h1, List.all_eq_true.2 HALL.out]
              rfl)
            clear hb8
            go_wp2_with fail
            go_ret
            exact ⟨ret_bool HR.out.symm, HFIN.out.trans (HB8.out.mono HFIN.out.size)⟩
end Go.Proofs.YtojlpfakdodnfaaGreatDoor
