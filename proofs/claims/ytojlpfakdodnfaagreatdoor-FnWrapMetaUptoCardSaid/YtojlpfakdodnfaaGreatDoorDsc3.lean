/- DescBad of the reference. -/
import Derived.Test.YtojlpfakdodnfaaGreatDoorDsc2
set_option linter.unusedVariables false
set_option linter.unusedSimpArgs false
namespace Go.Proofs.YtojlpfakdodnfaaGreatDoor
open Go.RowKit

theorem resv_lbl {s : ByteArray} (h : resv s = true) : okLbl s = false := by
  unfold resv at h
  unfold okLbl okName
  rcases Bool.or_eq_true_iff.1 h with h | h
  · have : s.size = 0 := of_decide_eq_true h
    rw [decide_eq_false (by omega)]; rfl
  · rw [h]; simp
theorem bad_name {D : Dsc} (h : D.name.size = 0) : descOk D = false := by
  unfold descOk okName
  rw [decide_eq_false (by omega)]; rfl
theorem bad_twice {D : Dsc} (h : ¬ (D.vars ++ D.keys).Nodup) : descOk D = false := by
  have h2 : ¬ (D.keys ++ D.vars).Nodup := fun hn => h ((List.perm_append_comm).nodup_iff.1 hn)
  unfold descOk
  rw [decide_eq_false h2, Bool.and_false]
theorem bad_var {D : Dsc} {x : ByteArray} (hx : x ∈ D.vars) (h : resv x = true) : descOk D = false := by
  have h2 : D.vars.all okLbl = false := by rw [List.all_eq_false]; exact ⟨x, hx, by rw [resv_lbl h]; simp⟩
  unfold descOk
  rw [h2]; simp
theorem key_fit {l : List Ent} {x : Ent} (hx : x ∈ l) : ∃ y ∈ fit l, y.1 = x.1 := by
  have key : ∀ (l o : List Ent), (∃ y ∈ o, y.1 = x.1) ∨ x ∈ l → ∃ y ∈ l.foldl (fun o p => insP p o) o, y.1 = x.1 := by
    intro l
    induction l with
    | nil => intro o h; exact h.resolve_right (by simp)
    | cons p l ih =>
      intro o h
      refine ih (insP p o) ?_
      have ins1 : ∀ o : List Ent, ∃ y ∈ insP p o, y.1 = p.1 := by
        intro o
        induction o with
        | nil => exact ⟨p, by simp [insP], rfl⟩
        | cons q r ih2 =>
          unfold insP
          split
          · obtain ⟨y, hy, e⟩ := ih2; exact ⟨y, List.mem_cons_of_mem _ hy, e⟩
          · split
            · rename_i h2; exact ⟨(q.1, p.2), List.mem_cons_self .., h2⟩
            · exact ⟨p, List.mem_cons_self .., rfl⟩
      have ins2 : ∀ o : List Ent, (∃ y ∈ o, y.1 = x.1) → ∃ y ∈ insP p o, y.1 = x.1 := by
        intro o
        induction o with
        | nil => rintro ⟨y, hy, _⟩; cases hy
        | cons q r ih2 =>
          rintro ⟨y, hy, e⟩
          unfold insP
          split
          · rcases List.mem_cons.1 hy with rfl | hy
            · exact ⟨_, List.mem_cons_self .., e⟩
            · obtain ⟨z, hz, e2⟩ := ih2 ⟨y, hy, e⟩; exact ⟨z, List.mem_cons_of_mem _ hz, e2⟩
          · split
            · rcases List.mem_cons.1 hy with rfl | hy
              · exact ⟨_, List.mem_cons_self .., e⟩
              · exact ⟨y, List.mem_cons_of_mem _ hy, e⟩
            · exact ⟨y, List.mem_cons_of_mem _ hy, e⟩
      rcases h with h | h
      · exact .inl (ins2 o h)
      · rcases List.mem_cons.1 h with rfl | h
        · exact .inl (ins1 o)
        · exact .inr h
  exact key l [] (.inr hx)
theorem bad_key {D : Dsc} {x : Ent} (hx : x ∈ D.cons) (h : resv x.1 = true) : descOk D = false := by
  obtain ⟨y, hy, e⟩ := key_fit hx
  have h2 : (fit D.cons).all (fun p => okLbl p.1) = false := by rw [List.all_eq_false]; exact ⟨y, hy, by rw [e, resv_lbl h]; simp⟩
  unfold descOk
  rw [h2]; simp
theorem size_empty {s : ByteArray} (h : s.size = 0) : s.toList.isEmpty = true := by
  rw [Lib.toList_data]
  obtain ⟨⟨l⟩⟩ := s
  match l, h with
  | [], _ => rfl
theorem size_nonempty {s : ByteArray} (h : ¬ s.size = 0) : s.toList.isEmpty = false := by
  rw [Lib.toList_data]
  obtain ⟨⟨l⟩⟩ := s
  match l, h with
  | [], h => exact absurd rfl h
  | a :: r, _ => rfl

set_option maxHeartbeats 3200000 in
set_option maxRecDepth 100000 in
theorem badK (D : Dsc) (v1 v2 : Value) (w : World) (hv1 : RdC Value.string w v1 D.vars) (hv2 : RdE w v2 D.cons) (hl1 : D.vars.length ≤ 4194304) (hl2 : D.cons.length ≤ 4194304) (hs1 : ∀ x ∈ D.vars, x.size ≤ 4194304) (hs2 : ∀ x ∈ D.cons, Tiny x) :
    Calls Tryz.prog 8 #[MetaV D.name D.help D.unit v1 v2] w fun e w' => SaidB (descOk D = false) w w' e := by
  have HV1 := Lib.hid hv1
  have HV2 := Lib.hid hv2
  have HS1 := Lib.hid hs1
  have HS2 := Lib.hid hs2
  clear hs1 hs2
  obtain ⟨a1, cap1, b1, o1, rfl, _, hm1, ha1, hc1⟩ := hv1
  obtain ⟨a2, cap2, b2, o2, rfl, _, hm2, ha2, hc2⟩ := hv2
  unfold maxLen at hm1 hm2
  have HC1 := Lib.hid hc1
  have HC2 := Lib.hid hc2
  clear hc1 hc2
  go_enter Tryz.func8, Tryz.ntmps8
  go_upto_region 1 with fail
  have hM := heap_alloc_new w (.cells #[.string D.name, .string D.help, .string D.unit, .slice a1 D.vars.length cap1, .slice a2 D.cons.length cap2] 25)
  have hb1 := (Below.refl _ w).alloc (Nat.le_refl _) (.cells #[.string D.name, .string D.help, .string D.unit, .slice a1 D.vars.length cap1, .slice a2 D.cons.length cap2] 25)
  have hP : w.heap.size < (w.alloc (.cells #[.string D.name, .string D.help, .string D.unit, .slice a1 D.vars.length cap1, .slice a2 D.cons.length cap2] 25)).heap.size := by simp
  generalize (w.alloc (.cells #[.string D.name, .string D.help, .string D.unit, .slice a1 D.vars.length cap1, .slice a2 D.cons.length cap2] 25)) = w1 at *
  have HM := Lib.hid hM
  have HB1 := Lib.hid hb1
  by_cases hn0 : D.name.size = 0
  · have e0 := size_empty hn0
    have c0 : w1.cell? ⟨w.heap.size, 0, none⟩ = some (.string D.name) := by rw [Lib.cell_of_heap hM]; rfl
    have HBAD := Lib.hid (bad_name hn0)
    clear hM hn0
    go_wp2_with fail
    go_ret
    exact ⟨⟨_, rfl, fun _ => HBAD.out⟩, hb1⟩
  · have e0 := size_nonempty hn0
    have c0 : w1.cell? ⟨w.heap.size, 0, none⟩ = some (.string D.name) := by rw [Lib.cell_of_heap hM]; rfl
    have c1 : w1.cell? ⟨w.heap.size, 1, none⟩ = some (.string D.help) := by rw [Lib.cell_of_heap hM]; rfl
    have c2 : w1.cell? ⟨w.heap.size, 2, none⟩ = some (.string D.unit) := by rw [Lib.cell_of_heap hM]; rfl
    have c3 : w1.cell? ⟨w.heap.size, 3, none⟩ = some (.slice a1 D.vars.length cap1) := by rw [Lib.cell_of_heap hM]; rfl
    have c4 : w1.cell? ⟨w.heap.size, 4, none⟩ = some (.slice a2 D.cons.length cap2) := by rw [Lib.cell_of_heap hM]; rfl
    have HT := Lib.hid (twiceK D.name D.help D.unit _ _ D.vars D.cons w1 (HV1.out.below hb1) (HV2.out.below hb1) hl1 hl2)
    clear hM
    go_wp2_with (go_at_call 28; go_must (refine HT.out.mono ?_))
    rintro e w2 ⟨⟨bb, rfl, htw⟩, hb2⟩
    have hb12 := HB1.out.trans (hb2.mono HB1.out.size)
    have hM2 : w2.heap[w.heap.size]? = _ := (hb2.block _ hP).trans HM.out
    clear c0 c1 c2 c3 c4 hb1 hb2
    cases bb with
    | true =>
      have HBAD := Lib.hid (bad_twice (D := D) (htw rfl))
      clear htw
      go_wp2_with fail
      go_ret
      exact ⟨⟨_, rfl, fun _ => HBAD.out⟩, hb12⟩
    | false =>
      clear htw
      have HMM : Hid (∀ z, Below w2.heap.size w2 z → z.cell? ⟨w.heap.size, 3, none⟩ = some (.slice a1 D.vars.length cap1) ∧ z.cell? ⟨w.heap.size, 4, none⟩ = some (.slice a2 D.cons.length cap2)) := Lib.hid (fun z hz => by
        have h := (Chg.of_below hz Non).obj hM2 (fun h => h)
        exact ⟨by rw [Lib.cell_of_heap h]; rfl, by rw [Lib.cell_of_heap h]; rfl⟩)
      have HB12 := Lib.hid hb12
      clear hM2 hP
      go_upto_block 0 with fail
      go_cut [] (fun wx => wx = w2)
      case first =>
        go_wp2_with fail
        go_loopw [3] (fun iv wx => wx = w2 ∧ ∃ k : Nat, k ≤ D.vars.length ∧ iv = .int .i64 (k : Int)) (fun iv _ => D.vars.length - (intOf iv).toNat)
        case atStart => exact ⟨rfl, 0, Nat.zero_le _, rfl⟩
        case round =>
          obtain ⟨rfl, k, hk, rfl⟩ := hrel
          obtain ⟨c3, c4⟩ := HMM.out wr (Below.refl _ _)
          by_cases hlt : k < D.vars.length
          · have hlti : (k : Int) < (D.vars.length : Int) := by omega
            obtain rfl : a1 = some ⟨b1, o1, none⟩ := by
              rcases ha1 with h | h
              · rw [h] at hlt; exact absurd hlt (Nat.not_lt_zero _)
              · exact h
            have ck0 := HC1.out k D.vars[k] (List.getElem?_eq_getElem hlt)
            have ck := (hb12.cell (p := ⟨b1, o1 + k, none⟩) (World.block_lt_of_cell? w _ ck0)).trans ck0
            have HR := Lib.hid (resvK D.vars[k] (by have := HS1.out _ (List.getElem_mem hlt); unfold maxLen; omega) wr)
            have HBAD : Hid (resv D.vars[k] = true → descOk D = false) := Lib.hid (fun h => bad_var (List.getElem_mem hlt) h)
            clear ck0
            generalize D.vars[k] = x at *
            generalize resv x = bb at *
            cases bb with
            | true =>
              go_wp2_with (go_at_call 29; go_must (refine HR.out.mono ?_); first | rintro e w5 rfl rfl | rintro e w5 ⟨rfl, rfl⟩)
              go_ret
              exact ⟨⟨_, rfl, fun _ => HBAD.out (by trivial)⟩, HB12.out⟩
            | false =>
              go_wp2_with (go_at_call 29; go_must (refine HR.out.mono ?_); first | rintro e w5 rfl rfl | rintro e w5 ⟨rfl, rfl⟩)
              go_roundw
              case rel => exact ⟨by trivial, k + 1, by omega, by go_num⟩
              case measure => simp [intOf]; omega
          · have hlti : ¬ (k : Int) < (D.vars.length : Int) := by omega
            go_wp2_with fail
            go_meet
            case rel => rfl
      case rest =>
        obtain rfl := hcut
        go_wp2_with fail
        go_loopw [4] (fun iv wx => wx = wc ∧ ∃ k : Nat, k ≤ D.cons.length ∧ iv = .int .i64 (k : Int)) (fun iv _ => D.cons.length - (intOf iv).toNat)
        case atStart => exact ⟨rfl, 0, Nat.zero_le _, rfl⟩
        case round =>
          obtain ⟨rfl, k, hk, rfl⟩ := hrel
          obtain ⟨c3, c4⟩ := HMM.out wr (Below.refl _ _)
          by_cases hlt : k < D.cons.length
          · have hlti : (k : Int) < (D.cons.length : Int) := by omega
            obtain rfl : a2 = some ⟨b2, o2, none⟩ := by
              rcases ha2 with h | h
              · rw [h] at hlt; exact absurd hlt (Nat.not_lt_zero _)
              · exact h
            have ck0 := (HC2.out k D.cons[k] (List.getElem?_eq_getElem hlt)).1
            have ck := (hb12.cell (p := ⟨b2, o2 + k * 2, none⟩) (World.block_lt_of_cell? w _ ck0)).trans ck0
            have HR := Lib.hid (resvK D.cons[k].1 (by have := (HS2.out _ (List.getElem_mem hlt)).1; unfold maxLen; omega) wr)
            have HBAD : Hid (resv D.cons[k].1 = true → descOk D = false) := Lib.hid (fun h => bad_key (List.getElem_mem hlt) h)
            clear ck0
            generalize D.cons[k].1 = x at *
            generalize resv x = bb at *
            cases bb with
            | true =>
              go_wp2_with (go_at_call 29; go_must (refine HR.out.mono ?_); first | rintro e w5 rfl rfl | rintro e w5 ⟨rfl, rfl⟩)
              go_ret
              exact ⟨⟨_, rfl, fun _ => HBAD.out (by trivial)⟩, HB12.out⟩
            | false =>
              go_wp2_with (go_at_call 29; go_must (refine HR.out.mono ?_); first | rintro e w5 rfl rfl | rintro e w5 ⟨rfl, rfl⟩)
              go_roundw
              case rel => exact ⟨by trivial, k + 1, by omega, by go_num⟩
              case measure => simp [intOf]; omega
          · have hlti : ¬ (k : Int) < (D.cons.length : Int) := by omega
            go_wp2_with fail
            go_ret
            exact ⟨⟨_, rfl, fun h => by cases h⟩, HB12.out⟩
end Go.Proofs.YtojlpfakdodnfaaGreatDoor
