/- GetGroupedOpCodes. -/
import Derived.Test.YtkbppaddghfgpaaDoorFloat
import Derived.Test.YtkbppaddghfgpaaDoorGrs
set_option linter.unusedVariables false
set_option linter.unusedSimpArgs false
namespace Go.Proofs.YtkbppaddghfgpaaDoor
open Go.RowKit Go.Maps

theorem row_one (w : World) (e : Ed) : Row (w.alloc (.cells #[.int .u8 (e.tag : Int), .int .i64 (e.i1 : Int), .int .i64 (e.i2 : Int), .int .i64 (e.j1 : Int), .int .i64 (e.j2 : Int)] 63)) w.heap.size [e] := by
  refine ⟨_, heap_alloc_new _ _, by simp, fun i x hx => ?_⟩
  match i, hx with
  | 0, hx =>
    simp at hx
    subst hx
    exact ⟨rfl, rfl, rfl, rfl, rfl⟩
theorem info_row : (Tryd.prog.info? 49).map (fun i => (i.zero, i.size, i.bytes)) = some (some (.slice none 0 0), 1, 24) := by kernel_rfl
def SaidGroups (M : Nat) (w : World) (gs : List (List Ed)) (w' : World) (e : Ending) : Prop := (∃ v, e = .returned v ∧ ∃ (B : Nat) (vals : List Value), M < B ∧ GR w' B 49 63 vals gs v) ∧ Below M w w'

/-- A block stands as it was. -/
structure KeptR (w : World) (R : Nat) (x : World) : Prop where
  eq : x.heap[R]? = w.heap[R]?
def SaidOps (M : Nat) (w : World) (es : List Ed) (w' : World) (e : Ending) : Prop := (∃ v, e = .returned v ∧ ∃ B, M < B ∧ w'.ownsRow B 63 5 v es.length (fiv es)) ∧ Below M w w'

set_option maxHeartbeats 12800000 in
set_option maxRecDepth 100000 in
theorem grouped {M : Nat} {a b : List ByteArray} {L : ByteArray → List Nat} (n : Nat) (hn : n ≤ 255) (w : World) (hm : Mem0 w M a b L) (hL : ∀ v j, j ∈ L v → b[j]? = some v)
    (hla : a.length ≤ 2147483647) (hlb : b.length ≤ 2147483647) (hsa : ∀ s ∈ a, s.size ≤ maxLen) (hsb : ∀ s ∈ b, s.size ≤ maxLen) :
    Calls Tryd.prog 22 #[.pointer (some ⟨M, 0, none⟩), .int .i64 (n : Int)] w
      fun e w' => SaidGroups M w (grp n (edits (gmb a b L))) w' e := by
  have HC1 : Hid (Calls Tryd.prog 18 #[.pointer (some ⟨M, 0, none⟩)] w fun e w' => SaidOps M w (edits (gmb a b L)) w' e) := Lib.hid (opCodes_own w hm hL hla hlb hsa hsb)
  have hlen := edits_len (a := a) hL hla
  have hOK := edits_right (a := a) hL
  obtain ⟨hinc, hoke⟩ := edOk_inc hOK
  have HOKE := Lib.hid hoke
  have hML : M < w.heap.size := by obtain ⟨_, _, _, _, _, hM0, _⟩ := hm; exact hM0.lt
  clear hm hsa hsb hL hOK hinc hoke
  have hn0 : ¬ (n : Int) < 0 := by omega
  go_enter Tryd.func22, Tryd.ntmps22
  go_wp2_with (go_at_call 18; go_must (refine HC1.out.mono ?_))
  rintro e w1 ⟨⟨cv, rfl, B, hMB, hown⟩, hb1⟩
  generalize hes : edits (gmb a b L) = es at *
  have HES := Lib.hid hes
  clear hes HC1
  have hM1 : M < w1.heap.size := Nat.lt_of_lt_of_le hML hb1.size
  obtain ⟨s1, s2, s3, rfl⟩ := own_shape3 hown
  obtain rfl : s2 = es.length := by
    rcases hown.2 with ⟨h1, h2⟩ | ⟨g, cap, cur, h1, _⟩
    · injection h1 with _ h1 _; rw [h1, h2]
    · injection h1
  go_upto_if 31 with fail
  go_cut [5] (fun v5 wx => ∃ cb cap : Nat, v5 = .slice (some ⟨cb, 0, none⟩) (codes0 es).length cap ∧ (codes0 es).length ≤ cap ∧ cap ≤ maxLen ∧ M < cb ∧ Row wx cb (codes0 es) ∧ Below M w wx)
  case first =>
    --<A
    by_cases h0 : es = []
    · have e0 : ((es.length : Int) == 0) = true := by rw [h0]; rfl
      have HE : Hid (codes0 es = [⟨101, 0, 1, 0, 1⟩]) := Lib.hid (by unfold codes0; rw [if_pos h0])
      have H0 := Lib.hid h0
      clear h0
      go_wp2_with fail
      go_meet
      case rel => exact ⟨w1.heap.size, 1, by rw [HE.out]; rfl, by rw [HE.out]; exact Nat.le_refl _, by unfold maxLen; omega, hM1, by rw [HE.out]; exact row_one w1 ⟨101, 0, 1, 0, 1⟩, hb1.alloc (Nat.le_of_lt hM1) _⟩
    · have e0 : ((es.length : Int) == 0) = false := by
        rw [beq_eq_false_iff_ne]
        intro h
        exact h0 (List.eq_nil_of_length_eq_zero (by omega))
      have HE : Hid (codes0 es = es) := Lib.hid (by unfold codes0; rw [if_neg h0])
      obtain ⟨cb, cap, hce, hB, hcl, hcm, hrow⟩ := Row.of_owns hown rfl h0
      injection hce with he1 he2 he3
      subst he1 he3
      have H0 := Lib.hid h0
      clear h0
      go_wp2_with fail
      go_meet
      case rel => rw [HE.out]; exact ⟨cb, s3, rfl, hcl, hcm, by omega, hrow, hb1⟩
    --A>
  case rest =>
    obtain ⟨cb, cap, rfl, hcl, hcm, hMc, hrow, hbc⟩ := hcut
    generalize wc = w2 at *
    have hOK0 : ∀ e ∈ codes0 es, OkE 2147483647 2147483647 e := by
      unfold codes0
      split
      · intro e he
        rw [List.mem_singleton.1 he]
        exact ⟨by decide, by decide, by decide, by decide, .inl rfl⟩
      · intro e he
        obtain ⟨h1, h2, h3, h4, h5⟩ := HOKE.out e he
        exact ⟨h1, by omega, h3, by omega, h5⟩
    have hpos : 0 < (codes0 es).length := by
      unfold codes0
      split
      · simp
      · rename_i h; exact List.length_pos_iff.2 h
    have hlen0 : (codes0 es).length ≤ 8589934593 := by
      unfold codes0
      split
      · simp
      · omega
    have HG : Hid (grp n es = grpEnd ((codes2 n (codes1 n (codes0 es))).foldl (grpStep n) ([], []))) := Lib.hid rfl
    clear hown hb1 hlen HOKE hM1 hMB
    generalize codes0 es = l0 at *
    unfold maxLen at hcm
    have hnb : (n : Int) ≤ 255 := by omega
    have f0 := hrow.five (i := 0) (e := at0 l0 0) (by rw [at0_mem hpos]; exact List.getElem?_eq_getElem hpos)
    have hok := hOK0 (at0 l0 0) (by rw [at0_mem hpos]; exact List.getElem_mem _)
    have HC1e : Hid (codes1 n l0 = l0.set 0 (headE n (at0 l0 0))) := Lib.hid rfl
    have H00 : Hid (at0 l0 0 = l0[0]) := Lib.hid (at0_mem hpos)
    generalize at0 l0 0 = c at *
    obtain ⟨tg, i1, i2, j1, j2⟩ := c
    obtain ⟨c0, c1, c2, c3, c4⟩ := f0
    obtain ⟨o1, o2, o3, o4, _⟩ := hok
    simp only [Nat.zero_mul, Nat.zero_add] at c0 c1 c2 c3 c4 o1 o2 o3 o4
    have hcl2 := hrow.lt
    go_upto_if 38 with fail
    go_cut [5] (fun v5 wx => v5 = .slice (some ⟨cb, 0, none⟩) l0.length cap ∧ Row wx cb (codes1 n l0) ∧ Below M w wx)
    case first =>
      --<B
      by_cases ht : tg = 101
      · have et : ((tg : Int) == 101) = true := by rw [ht]; rfl
        have HT := Lib.hid ht
        clear ht
        have hw1 : IntKind.i64.wrap ((i2 : Int) - (n : Int)) = (i2 : Int) - (n : Int) := IntWalk.i64_in _ ⟨by omega, by omega⟩
        have hw2 : IntKind.i64.wrap ((j2 : Int) - (n : Int)) = (j2 : Int) - (n : Int) := IntWalk.i64_in _ ⟨by omega, by omega⟩
        have HM1 : Hid (∀ w, Calls Tryd.prog 29 #[.int .i64 (i1 : Int), .int .i64 ((i2 : Int) - (n : Int))] w fun e w' => e = .returned (.int .i64 ((max i1 (i2 - n) : Nat) : Int)) ∧ w' = w) := Lib.hid (fun w => (maxI _ _ w).mono fun e w' h => ⟨by rw [h.1]; congr 2; omega, h.2⟩)
        have HM2 : Hid (∀ w, Calls Tryd.prog 29 #[.int .i64 (j1 : Int), .int .i64 ((j2 : Int) - (n : Int))] w fun e w' => e = .returned (.int .i64 ((max j1 (j2 - n) : Nat) : Int)) ∧ w' = w) := Lib.hid (fun w => (maxI _ _ w).mono fun e w' h => ⟨by rw [h.1]; congr 2; omega, h.2⟩)
        have HE : Hid (codes1 n l0 = l0.set 0 ⟨tg, max i1 (i2 - n), i2, max j1 (j2 - n), j2⟩) := Lib.hid (by rw [HC1e.out]; unfold headE; rw [if_pos HT.out, HT.out])
        have hm1 : max i1 (i2 - n) ≤ 2147483647 := by omega
        have hm2 : max j1 (j2 - n) ≤ 2147483647 := by omega
        generalize max i1 (i2 - n) = m1 at *
        generalize max j1 (j2 - n) = m2 at *
        go_upto_region 8 with fail
        go_big_quiet (fail)
        go_upto_region 9 with fail
        have x0 : ((w2.alloc (.cells #[.int .u8 (tg : Int), .int .i64 (i1 : Int), .int .i64 (i2 : Int), .int .i64 (j1 : Int), .int .i64 (j2 : Int)] 63)).drewN nq).cell? ⟨w2.heap.size, 0, none⟩ = some (.int .u8 (tg : Int)) := by simp
        have hrow4 : Row ((w2.alloc (.cells #[.int .u8 (tg : Int), .int .i64 (i1 : Int), .int .i64 (i2 : Int), .int .i64 (j1 : Int), .int .i64 (j2 : Int)] 63)).drewN nq) cb l0 := hrow.of_block (Below.heap_alloc w2 _ cb hcl2)
        have hb4 : Below M w ((w2.alloc (.cells #[.int .u8 (tg : Int), .int .i64 (i1 : Int), .int .i64 (i2 : Int), .int .i64 (j1 : Int), .int .i64 (j2 : Int)] 63)).drewN nq) := by
          have h := hbc.alloc (by omega) (.cells #[.int .u8 (tg : Int), .int .i64 (i1 : Int), .int .i64 (i2 : Int), .int .i64 (j1 : Int), .int .i64 (j2 : Int)] 63)
          exact ⟨h.os, h.tape, h.output, h.size, h.block⟩
        generalize (w2.alloc (.cells #[.int .u8 (tg : Int), .int .i64 (i1 : Int), .int .i64 (i2 : Int), .int .i64 (j1 : Int), .int .i64 (j2 : Int)] 63)).drewN nq = w4 at *
        generalize w2.heap.size = R at *
        clear c0 c1 c2 c3 c4 hrow hbc
        refine wp_region_still_tail 17 (by kernel_rfl) (by kernel_rfl) ?_
        simp only [List.take_succ_cons, List.take_zero, List.drop_succ_cons, List.drop_zero]
        repeat still_step
        still_call (HM1.out _)
        repeat still_step
        still_call (HM2.out _)
        repeat still_step
        refine wpStill_nil ?_
        change wpList _ _ _ _ _ w4.drew
        have hrow5 : Row w4.drew cb l0 := hrow4
        have hb5 : Below M w w4.drew := ⟨hb4.os, hb4.tape, hb4.output, hb4.size, hb4.block⟩
        clear hrow4 hb4 x0
        generalize w4.drew = w5 at *
        obtain ⟨c0, c1, c2, c3, c4⟩ := hrow5.five (i := 0) (e := ⟨tg, i1, i2, j1, j2⟩) (by rw [H00.out]; exact List.getElem?_eq_getElem hpos)
        simp only [Nat.zero_mul, Nat.zero_add] at c0 c1 c2 c3 c4
        have g0 := hrow5.frozen 0
        have g1 := hrow5.frozen 1
        have g2 := hrow5.frozen 2
        have g3 := hrow5.frozen 3
        have g4 := hrow5.frozen 4
        go_wp2_with fail
        go_meet
        case rel => exact ⟨rfl, by rw [HE.out]; exact hrow5.set5 0 0 hpos rfl ⟨tg, m1, i2, m2, j2⟩, below_set5 (a := 0) hb5 (Nat.le_of_lt hMc) _ _ _ _ _⟩
      · have et : ((tg : Int) == 101) = false := by simp; omega
        have HE : Hid (codes1 n l0 = l0) := Lib.hid (by rw [HC1e.out]; unfold headE; rw [if_neg ht, H00.out, List.set_getElem_self])
        have HT := Lib.hid ht
        clear ht
        go_wp2_with fail
        go_meet
        case rel => exact ⟨rfl, by rw [HE.out]; exact hrow, hbc⟩
      --B>
    case rest =>
      obtain ⟨rfl, hrow1, hbc1⟩ := hcut
      have hOK1 : ∀ e ∈ codes1 n l0, OkE 2147483647 2147483647 e := (codes1_ok (n := n) (fun e => by rw [e] at hpos; exact absurd hpos (Nat.lt_irrefl 0)) hOK0).2
      have hl1 : (codes1 n l0).length = l0.length := by unfold codes1; rw [List.length_set]
      clear hrow hbc c0 c1 c2 c3 c4 o1 o2 o3 o4 HC1e H00 hOK0 hcl2
      rw [← hl1] at hpos hcl hlen0 ⊢
      generalize codes1 n l0 = l1 at *
      generalize wc = w3 at *
      clear hl1
      have hlg : l1.length - 1 < l1.length := by omega
      have f0 := hrow1.five (i := l1.length - 1) (e := at0 l1 (l1.length - 1)) (by rw [at0_mem hlg]; exact List.getElem?_eq_getElem hlg)
      have hok := hOK1 (at0 l1 (l1.length - 1)) (by rw [at0_mem hlg]; exact List.getElem_mem _)
      have HC2e : Hid (codes2 n l1 = l1.set (l1.length - 1) (lastE n (at0 l1 (l1.length - 1)))) := Lib.hid rfl
      have H01 : Hid (at0 l1 (l1.length - 1) = l1[l1.length - 1]) := Lib.hid (at0_mem hlg)
      generalize at0 l1 (l1.length - 1) = c at *
      obtain ⟨tg, i1, i2, j1, j2⟩ := c
      obtain ⟨c0, c1, c2, c3, c4⟩ := f0
      obtain ⟨o1, o2, o3, o4, _⟩ := hok
      simp only at c0 c1 c2 c3 c4 o1 o2 o3 o4
      have hcl2 := hrow1.lt
      have hwl : IntKind.i64.wrap ((l1.length : Int) - 1) = ((l1.length - 1 : Nat) : Int) := (IntWalk.i64_in _ ⟨by omega, by omega⟩).trans (by omega)
      go_upto_if 74 with fail
      go_cut [5] (fun v5 wx => v5 = .slice (some ⟨cb, 0, none⟩) l1.length cap ∧ Row wx cb (codes2 n l1) ∧ Below M w wx)
      case first =>
        --<C
        by_cases ht : tg = 101
        · have et : ((tg : Int) == 101) = true := by rw [ht]; rfl
          have HT := Lib.hid ht
          clear ht
          have hw1 : IntKind.i64.wrap ((i1 : Int) + (n : Int)) = (i1 : Int) + (n : Int) := IntWalk.i64_in _ ⟨by omega, by omega⟩
          have hw2 : IntKind.i64.wrap ((j1 : Int) + (n : Int)) = (j1 : Int) + (n : Int) := IntWalk.i64_in _ ⟨by omega, by omega⟩
          have HM1 : Hid (∀ w, Calls Tryd.prog 30 #[.int .i64 (i2 : Int), .int .i64 ((i1 : Int) + (n : Int))] w fun e w' => e = .returned (.int .i64 ((min i2 (i1 + n) : Nat) : Int)) ∧ w' = w) := Lib.hid (fun w => (minI _ _ w).mono fun e w' h => ⟨by rw [h.1]; congr 2; omega, h.2⟩)
          have HM2 : Hid (∀ w, Calls Tryd.prog 30 #[.int .i64 (j2 : Int), .int .i64 ((j1 : Int) + (n : Int))] w fun e w' => e = .returned (.int .i64 ((min j2 (j1 + n) : Nat) : Int)) ∧ w' = w) := Lib.hid (fun w => (minI _ _ w).mono fun e w' h => ⟨by rw [h.1]; congr 2; omega, h.2⟩)
          have HE : Hid (codes2 n l1 = l1.set (l1.length - 1) ⟨tg, i1, min i2 (i1 + n), j1, min j2 (j1 + n)⟩) := Lib.hid (by rw [HC2e.out]; unfold lastE; rw [if_pos HT.out, HT.out])
          have hm1 : min i2 (i1 + n) ≤ 2147483647 := by omega
          have hm2 : min j2 (j1 + n) ≤ 2147483647 := by omega
          generalize min i2 (i1 + n) = m1 at *
          generalize min j2 (j1 + n) = m2 at *
          go_upto_region 12 with fail
          go_big_quiet (fail)
          go_upto_region 13 with fail
          have x0 : ((w3.alloc (.cells #[.int .u8 (tg : Int), .int .i64 (i1 : Int), .int .i64 (i2 : Int), .int .i64 (j1 : Int), .int .i64 (j2 : Int)] 63)).drewN nq).cell? ⟨w3.heap.size, 0, none⟩ = some (.int .u8 (tg : Int)) := by simp
          have hrow4 : Row ((w3.alloc (.cells #[.int .u8 (tg : Int), .int .i64 (i1 : Int), .int .i64 (i2 : Int), .int .i64 (j1 : Int), .int .i64 (j2 : Int)] 63)).drewN nq) cb l1 := hrow1.of_block (Below.heap_alloc w3 _ cb hcl2)
          have hb4 : Below M w ((w3.alloc (.cells #[.int .u8 (tg : Int), .int .i64 (i1 : Int), .int .i64 (i2 : Int), .int .i64 (j1 : Int), .int .i64 (j2 : Int)] 63)).drewN nq) := by
            have h := hbc1.alloc (by omega) (.cells #[.int .u8 (tg : Int), .int .i64 (i1 : Int), .int .i64 (i2 : Int), .int .i64 (j1 : Int), .int .i64 (j2 : Int)] 63)
            exact ⟨h.os, h.tape, h.output, h.size, h.block⟩
          generalize (w3.alloc (.cells #[.int .u8 (tg : Int), .int .i64 (i1 : Int), .int .i64 (i2 : Int), .int .i64 (j1 : Int), .int .i64 (j2 : Int)] 63)).drewN nq = w4 at *
          generalize w3.heap.size = R at *
          clear c0 c1 c2 c3 c4 hrow1 hbc1
          refine wp_region_still_tail 20 (by kernel_rfl) (by kernel_rfl) ?_
          simp only [List.take_succ_cons, List.take_zero, List.drop_succ_cons, List.drop_zero]
          repeat still_step
          still_call (HM1.out _)
          repeat still_step
          still_call (HM2.out _)
          repeat still_step
          refine wpStill_nil ?_
          change wpList _ _ _ _ _ w4.drew
          have hrow5 : Row w4.drew cb l1 := hrow4
          have hb5 : Below M w w4.drew := ⟨hb4.os, hb4.tape, hb4.output, hb4.size, hb4.block⟩
          clear hrow4 hb4 x0
          generalize w4.drew = w5 at *
          obtain ⟨c0, c1, c2, c3, c4⟩ := hrow5.five (i := l1.length - 1) (e := ⟨tg, i1, i2, j1, j2⟩) (by rw [H01.out]; exact List.getElem?_eq_getElem hlg)
          simp only at c0 c1 c2 c3 c4
          have g0 := hrow5.frozen ((l1.length - 1) * 5)
          have g1 := hrow5.frozen ((l1.length - 1) * 5 + 1)
          have g2 := hrow5.frozen ((l1.length - 1) * 5 + 2)
          have g3 := hrow5.frozen ((l1.length - 1) * 5 + 3)
          have g4 := hrow5.frozen ((l1.length - 1) * 5 + 4)
          go_wp2_with fail
          go_meet
          case rel => exact ⟨rfl, by rw [HE.out]; exact hrow5.set5 (l1.length - 1) _ hlg rfl ⟨tg, i1, m1, j1, m2⟩, below_set5 (a := (l1.length - 1) * 5) hb5 (Nat.le_of_lt hMc) _ _ _ _ _⟩
        · have et : ((tg : Int) == 101) = false := by simp; omega
          have HE : Hid (codes2 n l1 = l1) := Lib.hid (by rw [HC2e.out]; unfold lastE; rw [if_neg ht, H01.out, List.set_getElem_self])
          have HT := Lib.hid ht
          clear ht
          go_wp2_with fail
          go_meet
          case rel => exact ⟨rfl, by rw [HE.out]; exact hrow1, hbc1⟩
        --C>
      case rest =>
        obtain ⟨rfl, hrow2, hbc2⟩ := hcut
        have hOK2 : ∀ e ∈ codes2 n l1, OkE 2147483647 2147483647 e := codes2_ok (n := n) (fun e => by rw [e] at hpos; exact absurd hpos (Nat.lt_irrefl 0)) hOK1
        have hl2 : (codes2 n l1).length = l1.length := by unfold codes2; rw [List.length_set]
        clear hrow1 hbc1 c0 c1 c2 c3 c4 o1 o2 o3 o4 HC2e H01 hOK1 hcl2 hlg hwl
        rw [← hl2] at hpos hcl hlen0 ⊢
        generalize codes2 n l1 = l2 at *
        generalize wc = w4 at *
        clear hl2
        have HOK := Lib.hid hOK2
        clear hOK2
        have hwn : IntKind.i64.wrap ((n : Int) + (n : Int)) = (n : Int) + (n : Int) := IntWalk.i64_in _ ⟨by omega, by omega⟩
        have hcl4 := hrow2.lt
        have hM4 : M < w4.heap.size := by omega
        have hst := GLv.start w4
        have hb40 : Below w4.heap.size w4 ((w4.alloc (.cells #[] 49)).alloc (.cells #[] 63)) := ((Below.refl _ w4).alloc (Nat.le_refl _) _).alloc (by simp) _
        obtain ⟨i0, hi, hz0, hz1, hz2⟩ := info_parts info_op
        obtain ⟨q0, hq, hy0, hy1, hy2⟩ := info_parts info_row
        go_wp2_with fail
        generalize hB0 : w4.heap.size = B0 at *
        have HB0 := Lib.hid hB0
        clear hB0
        go_loopw [17, 18, 116] (fun v17 v18 v116 wr => ∃ t : Nat, t ≤ l2.length ∧ v116 = .int .i64 (t : Int) ∧ GL wr B0 ((l2.take t).foldl (grpStep n) ([], [])).1 ((l2.take t).foldl (grpStep n) ([], [])).2 v17 v18 ∧ Below B0 w4 wr)
          (fun _ _ v116 _ => l2.length - (intOf v116).toNat)
        case atStart => exact ⟨0, Nat.zero_le _, rfl, ⟨[], hst⟩, hb40⟩
        case round =>
          obtain ⟨t, ht, rfl, ⟨vals, hGL⟩, hbr⟩ := hrel
          clear hst hb40
          by_cases hlt : t < l2.length
          · have hlt' : (t : Int) < (l2.length : Int) := by omega
            have f0 := hrow2.five (i := t) (e := l2[t]) (List.getElem?_eq_getElem hlt)
            have hok := HOK.out l2[t] (List.getElem_mem hlt)
            have HT : Hid ((l2.take (t + 1)).foldl (grpStep n) ([], []) = grpStep n ((l2.take t).foldl (grpStep n) ([], [])) l2[t]) := Lib.hid (by rw [List.take_succ_eq_append_getElem hlt, step_snoc])
            obtain ⟨ht1, ht2⟩ := step_tot (n := n) (l2.take t) ([], [])
            have htl : (l2.take t).length = t := by rw [List.length_take]; omega
            rw [htl] at ht1 ht2
            simp only [tot, List.length_nil] at ht1 ht2
            generalize (l2.take t).foldl (grpStep n) ([], []) = St at *
            obtain ⟨gs, cur⟩ := St
            generalize l2[t] = c at *
            obtain ⟨tg, i1, i2, j1, j2⟩ := c
            obtain ⟨c0, c1, c2, c3, c4⟩ := f0
            obtain ⟨o1, o2, o3, o4, _⟩ := hok
            simp only at c0 c1 c2 c3 c4 o1 o2 o3 o4 ht1 ht2 hGL
            have d0 := (hbr.cell (p := ⟨cb, t * 5, none⟩) hcl4).trans c0
            have d1 := (hbr.cell (p := ⟨cb, t * 5 + 1, none⟩) hcl4).trans c1
            have d2 := (hbr.cell (p := ⟨cb, t * 5 + 2, none⟩) hcl4).trans c2
            have d3 := (hbr.cell (p := ⟨cb, t * 5 + 3, none⟩) hcl4).trans c3
            have d4 := (hbr.cell (p := ⟨cb, t * 5 + 4, none⟩) hcl4).trans c4
            clear c0 c1 c2 c3 c4
            have hsz := hbr.size
            rw [HB0.out] at hsz
            obtain ⟨a1, a3, hvg⟩ := own_shapeG hGL.grp
            obtain ⟨b1, b3, hvc⟩ := own_shapeG hGL.cur
            subst hvg hvc
            go_upto_region 20 with fail
            go_big_quiet (fail)
            have x0 : ((wr.alloc (.cells #[.int .u8 (tg : Int), .int .i64 (i1 : Int), .int .i64 (i2 : Int), .int .i64 (j1 : Int), .int .i64 (j2 : Int)] 63)).drewN nq).cell? ⟨wr.heap.size, 0, none⟩ = some (.int .u8 (tg : Int)) := by simp
            have hgr : wr.grownBy ((wr.alloc (.cells #[.int .u8 (tg : Int), .int .i64 (i1 : Int), .int .i64 (i2 : Int), .int .i64 (j1 : Int), .int .i64 (j2 : Int)] 63)).drewN nq) none := by
              have h := World.grownBy_alloc wr (.cells #[.int .u8 (tg : Int), .int .i64 (i1 : Int), .int .i64 (i2 : Int), .int .i64 (j1 : Int), .int .i64 (j2 : Int)] 63) none
              exact ⟨h.os, h.tape, h.output, h.size, h.block⟩
            have hb6 := hbr.grown hgr (by omega) (fun q hq => by cases hq)
            have hRv : ∀ k, (Value.slice b1 cur.length b3).ownBlock = some k → k < wr.heap.size := fun k hk => (hGL.cur.lt k hk).2
            have hRg : ∀ k, (Value.slice a1 gs.length a3).ownBlock = some k → k < wr.heap.size := fun k hk => (hGL.grp.lt k hk).2
            have hR6 : wr.heap.size < ((wr.alloc (.cells #[.int .u8 (tg : Int), .int .i64 (i1 : Int), .int .i64 (i2 : Int), .int .i64 (j1 : Int), .int .i64 (j2 : Int)] 63)).drewN nq).heap.size := World.block_lt_of_cell? _ _ x0
            have hG6 := hGL.grown hgr
            generalize (wr.alloc (.cells #[.int .u8 (tg : Int), .int .i64 (i1 : Int), .int .i64 (i2 : Int), .int .i64 (j1 : Int), .int .i64 (j2 : Int)] 63)).drewN nq = w6 at *
            generalize wr.heap.size = R at *
            have hsz6 := hb6.size
            rw [HB0.out] at hsz6
            have hRB : B0 ≤ R := hsz
            clear d0 d1 d2 d3 d4 hGL hgr hbr
            have hwd : IntKind.i64.wrap ((i2 : Int) - (i1 : Int)) = (i2 : Int) - (i1 : Int) := IntWalk.i64_in _ ⟨by omega, by omega⟩
            go_upto_region 21 with fail
            go_cut [137] (fun v137 wx => v137 = .bool (decide (big n ⟨tg, i1, i2, j1, j2⟩)) ∧ wx = w6)
            case first =>
              by_cases htg : tg = 101
              · have et : ((tg : Int) == 101) = true := by rw [htg]; rfl
                have HD : Hid (decide (big n ⟨tg, i1, i2, j1, j2⟩) = decide ((n : Int) + (n : Int) < (i2 : Int) - (i1 : Int))) := Lib.hid (decide_eq_decide.2 (show (tg = 101 ∧ n + n < i2 - i1) ↔ _ from by omega))
                have HT2 := Lib.hid htg
                clear htg
                go_wp2_with fail
                go_meet
                case rel => exact ⟨by rw [HD.out], rfl⟩
              · have et : ((tg : Int) == 101) = false := by simp; omega
                have HD : Hid (decide (big n ⟨tg, i1, i2, j1, j2⟩) = false) := Lib.hid (by
                  unfold big
                  simp only
                  simp [htg])
                have HT2 := Lib.hid htg
                clear htg
                go_wp2_with fail
                go_meet
                case rel => exact ⟨by rw [HD.out], rfl⟩
            case rest =>
            obtain ⟨rfl, rfl⟩ := hcut
            generalize wc = w6 at *
            go_upto_if 137 with fail
            go_cut [17, 18, 21, 23] (fun v17 v18 v21 v23 wx => ∃ (vals' : List Value) (gs' : List (List Ed)) (cur' : List Ed) (i1' j1' : Nat), v21 = .int .i64 (i1' : Int) ∧ v23 = .int .i64 (j1' : Int) ∧ GLv wx B0 vals' gs' cur' v17 v18 ∧ Hid (grpStep n (gs, cur) ⟨tg, i1, i2, j1, j2⟩ = (gs', cur' ++ [⟨tg, i1', i2, j1', j2⟩])) ∧ cur'.length ≤ cur.length ∧ wx.cell? ⟨R, 0, none⟩ = some (.int .u8 (tg : Int)) ∧ Below B0 w4 wx)
            case first =>
              --<D
              by_cases hbig : big n ⟨tg, i1, i2, j1, j2⟩
              · have hdb : decide (big n ⟨tg, i1, i2, j1, j2⟩) = true := by simp [hbig]
                rw [hdb]
                have htg : tg = 101 := hbig.1
                have HE : Hid (grpStep n (gs, cur) ⟨tg, i1, i2, j1, j2⟩ = (gs ++ [cur ++ [⟨tg, i1, min i2 (i1 + n), j1, min j2 (j1 + n)⟩]], [] ++ [⟨tg, max i1 (i2 - n), i2, max j1 (j2 - n), j2⟩])) := Lib.hid (by
                  unfold grpStep
                  rw [if_pos hbig]
                  unfold lastE headE
                  rw [if_pos htg, if_pos htg, htg]
                  rfl)
                have hw1 : IntKind.i64.wrap ((i1 : Int) + (n : Int)) = (i1 : Int) + (n : Int) := IntWalk.i64_in _ ⟨by omega, by omega⟩
                have hw2 : IntKind.i64.wrap ((j1 : Int) + (n : Int)) = (j1 : Int) + (n : Int) := IntWalk.i64_in _ ⟨by omega, by omega⟩
                have hw3 : IntKind.i64.wrap ((i2 : Int) - (n : Int)) = (i2 : Int) - (n : Int) := IntWalk.i64_in _ ⟨by omega, by omega⟩
                have hw4 : IntKind.i64.wrap ((j2 : Int) - (n : Int)) = (j2 : Int) - (n : Int) := IntWalk.i64_in _ ⟨by omega, by omega⟩
                have HM1 : Hid (∀ w, Calls Tryd.prog 30 #[.int .i64 (i2 : Int), .int .i64 ((i1 : Int) + (n : Int))] w fun e w' => e = .returned (.int .i64 ((min i2 (i1 + n) : Nat) : Int)) ∧ w' = w) := Lib.hid (fun w => (minI _ _ w).mono fun e w' h => ⟨by rw [h.1]; congr 2; omega, h.2⟩)
                have HM2 : Hid (∀ w, Calls Tryd.prog 30 #[.int .i64 (j2 : Int), .int .i64 ((j1 : Int) + (n : Int))] w fun e w' => e = .returned (.int .i64 ((min j2 (j1 + n) : Nat) : Int)) ∧ w' = w) := Lib.hid (fun w => (minI _ _ w).mono fun e w' h => ⟨by rw [h.1]; congr 2; omega, h.2⟩)
                have HM3 : Hid (∀ w, Calls Tryd.prog 29 #[.int .i64 (i1 : Int), .int .i64 ((i2 : Int) - (n : Int))] w fun e w' => e = .returned (.int .i64 ((max i1 (i2 - n) : Nat) : Int)) ∧ w' = w) := Lib.hid (fun w => (maxI _ _ w).mono fun e w' h => ⟨by rw [h.1]; congr 2; omega, h.2⟩)
                have HM4 : Hid (∀ w, Calls Tryd.prog 29 #[.int .i64 (j1 : Int), .int .i64 ((j2 : Int) - (n : Int))] w fun e w' => e = .returned (.int .i64 ((max j1 (j2 - n) : Nat) : Int)) ∧ w' = w) := Lib.hid (fun w => (maxI _ _ w).mono fun e w' h => ⟨by rw [h.1]; congr 2; omega, h.2⟩)
                have hmn1 : min (i2 : Int) ((i1 : Int) + (n : Int)) = ((min i2 (i1 + n) : Nat) : Int) := by omega
                have hmx3 : max (i1 : Int) ((i2 : Int) - (n : Int)) = ((max i1 (i2 - n) : Nat) : Int) := by omega
                have hmx4 : max (j1 : Int) ((j2 : Int) - (n : Int)) = ((max j1 (j2 - n) : Nat) : Int) := by omega
                have hmn2 : min (j2 : Int) ((j1 : Int) + (n : Int)) = ((min j2 (j1 + n) : Nat) : Int) := by omega
                generalize min i2 (i1 + n) = m1 at *
                generalize min j2 (j1 + n) = m2 at *
                generalize max i1 (i2 - n) = m3 at *
                generalize max j1 (j2 - n) = m4 at *
                have HT2 := Lib.hid htg
                have HB2 := Lib.hid hbig
                clear htg hbig hdb
                go_upto_region 22 with fail
                have hG6d : GLv w6.drew B0 vals gs cur (.slice a1 gs.length a3) (.slice b1 cur.length b3) := hG6.grown ⟨rfl, rfl, rfl, Nat.le_refl _, fun _ _ _ => rfl⟩
                have hb6d : Below B0 w4 w6.drew := ⟨hb6.os, hb6.tape, hb6.output, hb6.size, hb6.block⟩
                have x0d : w6.drew.cell? ⟨R, 0, none⟩ = some (.int .u8 (tg : Int)) := x0
                have hR6d : R < w6.drew.heap.size := hR6
                refine wp_region_float 16 (by kernel_rfl) (by kernel_rfl) rfl rfl rfl (by decide) (by kernel_rfl) (by kernel_rfl) (by kernel_rfl) (fun c a w v h => h) ?_
                simp only [lateAt, lateOp, List.modify_succ_cons, List.modify_zero_cons, List.take_succ_cons, List.take_zero, List.drop_succ_cons, List.drop_zero]
                repeat still_step
                still_call (HM1.out _)
                repeat still_step
                still_call (HM2.out _)
                repeat still_step
                refine wpStill_nil ?_
                change wpList _ _ _ _ _ w6.drew
                clear hG6 hb6 x0 hR6 hsz6
                generalize w6.drew = w7 at *
                have hsz7 := hb6d.size
                rw [HB0.out] at hsz7
                have hG7 := hG6d.grown (World.grownBy_alloc w7 (.cells #[.int .u8 (tg : Int), .int .i64 (i1 : Int), .int .i64 (m1 : Int), .int .i64 (j1 : Int), .int .i64 (m2 : Int)] 63) none)
                go_wp2_with (at_builtin; go_must (refine wpList_append_own_at _ rfl _ _ 49 rfl B0 63 i0 (.agg #[.int .u8 0, .int .i64 0, .int .i64 0, .int .i64 0, .int .i64 0]) 5 40 Tryd.underlying49 hi hz0 hz1 hz2 rfl (by decide) _ _ _ rfl hG7.cur ⟨w7.heap.size, 0, none⟩ 1 1 [.int .u8 (tg : Int), .int .i64 (i1 : Int), .int .i64 (m1 : Int), .int .i64 (j1 : Int), .int .i64 (m2 : Int)] rfl rfl (cell_five _ _ _ _ _ _ _ _ (heap_alloc_new _ _)) (by intro u hu; simp at hu; rcases hu with rfl | rfl | rfl | rfl | rfl <;> rfl) (by unfold maxLen; omega) (by omega) (by simp; omega) ?_))
                intro v8 w8 ho8 hg8 _ hl8
                have ho9 : w8.ownsRow B0 63 5 v8 (cur ++ [(⟨tg, i1, m1, j1, m2⟩ : Ed)]).length (fiv (cur ++ [(⟨tg, i1, m1, j1, m2⟩ : Ed)])) := by rw [fiv_snoc, List.length_append]; exact ho8
                have hG8 := hG7.app ho9 hg8 hl8 (by simp)
                have hb8 := (hb6d.alloc hsz7 (.cells #[.int .u8 (tg : Int), .int .i64 (i1 : Int), .int .i64 (m1 : Int), .int .i64 (j1 : Int), .int .i64 (m2 : Int)] 63)).grown hg8 (by simp; omega) (fun q hq => (hG7.cur.lt q hq).1)
                have x8 : w8.cell? ⟨R, 0, none⟩ = some (.int .u8 (tg : Int)) := hg8.cell (a := ⟨R, 0, none⟩) ((World.cell?_alloc_past _ R 0 hR6d).trans x0d) (fun e => by have := hRv R e.symm; omega)
                have hR8 : R < w8.heap.size := World.block_lt_of_cell? _ _ x8
                have hsz8 := hb8.size
                rw [HB0.out] at hsz8
                obtain ⟨d1, d3, hvc⟩ := own_shapeG hG8.cur
                rw [List.length_append, List.length_singleton] at hvc
                subst hvc
                clear ho8 ho9 hG7 hG6d hb6d x0d hg8
                have hG9 := hG8.grown (World.grownBy_alloc w8 (.cells #[.slice d1 (cur.length + 1) d3] 49) none)
                go_wp2_with (at_builtin; go_must (refine wpList_append_own_at _ rfl _ _ 60 rfl B0 49 q0 (.slice none 0 0) 1 24 Tryd.underlying60 hq hy0 hy1 hy2 rfl (by decide) _ _ _ rfl hG9.grp ⟨w8.heap.size, 0, none⟩ 1 1 [.slice d1 (cur.length + 1) d3] rfl rfl (cell_one1 w8 _ _) (by intro u hu; simp at hu; rw [hu]; rfl) (by unfold maxLen; omega) (by omega) (by simp; omega) ?_))
                intro v10 w10 ho10 hg10 _ hl10
                have hb10 := (hb8.alloc hsz8 (.cells #[.slice d1 (cur.length + 1) d3] 49)).grown hg10 (by simp; omega) (fun q hq => (hG9.grp.lt q hq).1)
                have x10 : w10.cell? ⟨R, 0, none⟩ = some (.int .u8 (tg : Int)) := hg10.cell (a := ⟨R, 0, none⟩) ((World.cell?_alloc_past _ R 0 hR8).trans x8) (fun e => by have := hRg R e.symm; omega)
                have hR10 : R < w10.heap.size := World.block_lt_of_cell? _ _ x10
                have hsz10 := hb10.size
                rw [HB0.out] at hsz10
                have hG11 := hG9.fresh ho10 hg10 hl10 (by simp) hsz10
                have hb11 := hb10.alloc hsz10 (.cells #[] 63)
                have x11 : (w10.alloc (.cells #[] 63)).cell? ⟨R, 0, none⟩ = some (.int .u8 (tg : Int)) := (World.cell?_alloc_past _ R 0 hR10).trans x10
                obtain ⟨f1, f3, hvg⟩ := own_shapeG ho10
                subst hvg
                clear ho10 hg10 hG9 hG8 hb8 x8 x10 hb10
                go_wp2_with (go_at_call 29; go_must (refine (maxI _ _ _).mono ?_))
                rintro e wz ⟨rfl, rfl⟩
                rw [hmx3]
                go_wp2_with (go_at_call 29; go_must (refine (maxI _ _ _).mono ?_))
                rintro e wz ⟨rfl, rfl⟩
                rw [hmx4]
                go_wp2_with fail
                go_meet
                case rel => exact ⟨_, _, [], m3, m4, rfl, rfl, hG11, HE, Nat.zero_le _, x11, hb11⟩
              · have HE : Hid (grpStep n (gs, cur) ⟨tg, i1, i2, j1, j2⟩ = (gs, cur ++ [⟨tg, i1, i2, j1, j2⟩])) := Lib.hid (by unfold grpStep; rw [if_neg hbig])
                have hdb : decide (big n ⟨tg, i1, i2, j1, j2⟩) = false := by simp [hbig]
                rw [hdb]
                have HB2 := Lib.hid hbig
                clear hbig hdb
                go_wp2_with fail
                go_meet
                case rel => exact ⟨vals, gs, cur, i1, j1, rfl, rfl, hG6, HE, Nat.le_refl _, x0, hb6⟩
              --D>
            case rest =>
              --<E
              obtain ⟨vals', gs', cur', i1', j1', rfl, rfl, hG7, HS, hcl7, x7, hb7⟩ := hcut
              clear hG6 x0 hb6
              generalize wc = w7 at *
              obtain ⟨a1', a3', hvg⟩ := own_shapeG hG7.grp
              obtain ⟨b1', b3', hvc⟩ := own_shapeG hG7.cur
              subst hvg hvc
              have hsz7 := hb7.size
              rw [HB0.out] at hsz7
              have hG8 := hG7.grown (World.grownBy_alloc w7 (.cells #[.int .u8 (tg : Int), .int .i64 (i1' : Int), .int .i64 (i2 : Int), .int .i64 (j1' : Int), .int .i64 (j2 : Int)] 63) none)
              go_wp2_with (at_builtin; go_must (refine wpList_append_own_at _ rfl _ _ 49 rfl B0 63 i0 (.agg #[.int .u8 0, .int .i64 0, .int .i64 0, .int .i64 0, .int .i64 0]) 5 40 Tryd.underlying49 hi hz0 hz1 hz2 rfl (by decide) _ _ _ rfl hG8.cur ⟨w7.heap.size, 0, none⟩ 1 1 [.int .u8 (tg : Int), .int .i64 (i1' : Int), .int .i64 (i2 : Int), .int .i64 (j1' : Int), .int .i64 (j2 : Int)] rfl rfl (cell_five _ _ _ _ _ _ _ _ (heap_alloc_new _ _)) (by intro u hu; simp at hu; rcases hu with rfl | rfl | rfl | rfl | rfl <;> rfl) (by unfold maxLen; omega) (by omega) (by simp; omega) ?_))
              intro v8 w8 ho8 hg8 _ hl8
              have ho9 : w8.ownsRow B0 63 5 v8 (cur' ++ [(⟨tg, i1', i2, j1', j2⟩ : Ed)]).length (fiv (cur' ++ [(⟨tg, i1', i2, j1', j2⟩ : Ed)])) := by rw [fiv_snoc, List.length_append]; exact ho8
              have hG9 := hG8.app ho9 hg8 hl8 (by simp)
              have hb9 := (hb7.alloc hsz7 (.cells #[.int .u8 (tg : Int), .int .i64 (i1' : Int), .int .i64 (i2 : Int), .int .i64 (j1' : Int), .int .i64 (j2 : Int)] 63)).grown hg8 (by simp; omega) (fun q hq => (hG8.cur.lt q hq).1)
              go_wp2_with fail
              go_roundw
              case rel => exact ⟨t + 1, by omega, by go_num, by rw [HT.out, HS.out]; exact ⟨vals', hG9⟩, hb9⟩
              case measure => simp [intOf]; omega
              --E>
          · have hkl : t = l2.length := by omega
            have hlt' : ¬ (t : Int) < (l2.length : Int) := by omega
            subst hkl
            rw [List.take_length] at *
            obtain ⟨ht1, ht2⟩ := step_tot (n := n) l2 ([], [])
            simp only [tot, List.length_nil] at ht1 ht2
            generalize l2.foldl (grpStep n) ([], []) = St at *
            obtain ⟨gs, cur⟩ := St
            simp only at hGL ht1 ht2
            obtain ⟨a1, a3, hvg⟩ := own_shapeG hGL.grp
            obtain ⟨b1, b3, hvc⟩ := own_shapeG hGL.cur
            subst hvg hvc
            have hsz := hbr.size
            rw [HB0.out] at hsz
            have hbf := hbc2.trans (hbr.mono (Nat.le_of_lt hM4))
            have hkl : cur.length ≤ 17179869186 := by omega
            by_cases hk0 : cur = []
            · have hd : decide ((0 : Int) < (cur.length : Int)) = false := by rw [hk0]; rfl
              have hd' : ¬ (0 : Int) < (cur.length : Int) := by rw [hk0]; simp
              have HE : Hid (grp n es = gs) := Lib.hid (by rw [HG.out]; unfold grpEnd; rw [if_neg (fun h => by rw [hk0] at h; exact absurd h.1 (Nat.lt_irrefl 0))])
              have HK0 := Lib.hid hk0
              clear hk0
              go_wp2_with fail
              go_ret
              exact ⟨⟨_, rfl, B0, vals, hM4, by rw [HES.out, HE.out]; exact hGL.gr⟩, hbf⟩
            · have hp0 : 0 < cur.length := List.length_pos_iff.2 hk0
              have hd : decide ((0 : Int) < (cur.length : Int)) = true := by simp; exact hp0
              have hd' : (0 : Int) < (cur.length : Int) := by omega
              obtain ⟨kb, kcap, hke, hkB, _, _, hkrow⟩ := Row.of_owns hGL.cur rfl hk0
              injection hke with hk1 hk2 hk3
              subst hk1 hk3
              obtain ⟨c0, _⟩ := hkrow.five (i := 0) (e := at0 cur 0) (by rw [at0_mem hp0]; exact List.getElem?_eq_getElem hp0)
              simp only [Nat.zero_mul] at c0
              clear hk0
              by_cases h1 : cur.length = 1
              · have e1 : ((cur.length : Int) != 1) = false := by rw [h1]; rfl
                by_cases htg : (at0 cur 0).tag = 101
                · have et : (((at0 cur 0).tag : Int) != 101) = false := by rw [htg]; rfl
                  have HE : Hid (grp n es = gs) := Lib.hid (by rw [HG.out]; unfold grpEnd; rw [if_neg (fun h => by rcases h.2 with h | h; exact h h1; exact h htg)])
                  have HA := Lib.hid h1
                  have HT2 := Lib.hid htg
                  clear h1 htg
                  generalize (at0 cur 0).tag = tg at *
                  go_wp2_with fail
                  go_ret
                  exact ⟨⟨_, rfl, B0, vals, hM4, by rw [HES.out, HE.out]; exact hGL.gr⟩, hbf⟩
                · have et : (((at0 cur 0).tag : Int) != 101) = true := by simp; omega
                  have HKK : keep cur := ⟨hp0, .inr htg⟩
                  have HA := Lib.hid h1
                  have HT2 := Lib.hid htg
                  clear h1 htg
                  have HE : Hid (grp n es = gs ++ [cur]) := Lib.hid (by rw [HG.out]; unfold grpEnd; rw [if_pos HKK])
                  have HK2 := Lib.hid HKK
                  clear HKK
                  have hG9 := hGL.grown (World.grownBy_alloc wr (.cells #[.slice (some ⟨kb, 0, none⟩) cur.length b3] 49) none)
                  go_wp2_with (at_builtin; go_must (refine wpList_append_own_at _ rfl _ _ 60 rfl B0 49 q0 (.slice none 0 0) 1 24 Tryd.underlying60 hq hy0 hy1 hy2 rfl (by decide) _ _ _ rfl hG9.grp ⟨wr.heap.size, 0, none⟩ 1 1 [.slice (some ⟨kb, 0, none⟩) cur.length b3] rfl rfl (cell_one1 wr _ _) (by intro u hu; simp at hu; rw [hu]; rfl) (by unfold maxLen; omega) (by omega) (by simp; omega) ?_))
                  intro v10 w10 ho10 hg10 _ hl10
                  have hb10 := (hbr.alloc hsz (.cells #[.slice (some ⟨kb, 0, none⟩) cur.length b3] 49)).grown hg10 (by simp; omega) (fun q hq => (hG9.grp.lt q hq).1)
                  have hR := hG9.lastG ho10 hg10 hl10 (by simp)
                  have hbf2 := hbc2.trans (hb10.mono (Nat.le_of_lt hM4))
                  go_wp2_with fail
                  go_ret
                  exact ⟨⟨_, rfl, B0, _, hM4, by rw [HES.out, HE.out]; exact hR⟩, hbf2⟩
              · have e1 : ((cur.length : Int) != 1) = true := by
                  rw [bne_iff_ne]
                  omega
                have HKK : keep cur := ⟨hp0, .inl h1⟩
                have HA := Lib.hid h1
                clear h1
                have HE : Hid (grp n es = gs ++ [cur]) := Lib.hid (by rw [HG.out]; unfold grpEnd; rw [if_pos HKK])
                have HK2 := Lib.hid HKK
                clear HKK
                have hG9 := hGL.grown (World.grownBy_alloc wr (.cells #[.slice (some ⟨kb, 0, none⟩) cur.length b3] 49) none)
                go_wp2_with (at_builtin; go_must (refine wpList_append_own_at _ rfl _ _ 60 rfl B0 49 q0 (.slice none 0 0) 1 24 Tryd.underlying60 hq hy0 hy1 hy2 rfl (by decide) _ _ _ rfl hG9.grp ⟨wr.heap.size, 0, none⟩ 1 1 [.slice (some ⟨kb, 0, none⟩) cur.length b3] rfl rfl (cell_one1 wr _ _) (by intro u hu; simp at hu; rw [hu]; rfl) (by unfold maxLen; omega) (by omega) (by simp; omega) ?_))
                intro v10 w10 ho10 hg10 _ hl10
                have hb10 := (hbr.alloc hsz (.cells #[.slice (some ⟨kb, 0, none⟩) cur.length b3] 49)).grown hg10 (by simp; omega) (fun q hq => (hG9.grp.lt q hq).1)
                have hR := hG9.lastG ho10 hg10 hl10 (by simp)
                have hbf2 := hbc2.trans (hb10.mono (Nat.le_of_lt hM4))
                go_wp2_with fail
                go_ret
                exact ⟨⟨_, rfl, B0, _, hM4, by rw [HES.out, HE.out]; exact hR⟩, hbf2⟩
end Go.Proofs.YtkbppaddghfgpaaDoor
