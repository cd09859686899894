/- NewDesc, where there are constant labels. -/
import Derived.Test.YtojlpfakdodnfaaGreatDoorNew2
import Derived.Test.YtojlpfakdodnfaaGreatDoorBuf2
import Derived.Test.YtojlpfakdodnfaaGreatDoorPair
import Derived.Deep.RegionLaw
import Derived.Deep.AppendLies
import Derived.Test.YtojlpfakdodnfaaGreatDoorRng2
import Derived.Test.YtojlpfakdodnfaaGreatDoorSrt
import Derived.Maps.AppendAt
import Derived.StillTailTactics
set_option linter.unusedVariables false
set_option linter.unusedSimpArgs false
namespace Go.Proofs.YtojlpfakdodnfaaGreatDoor
open Go.RowKit Go.Maps Go.Sort

theorem row_made1 {x : World} {B g cap : Nat} {cs : Array Value} {T : TypeId} (hg : x.heap[g]? = some (.cells cs T (0, 0))) (hs : cs.size = cap) (h1 : 1 ≤ cap) (hm : cap ≤ maxLen) (hB : B ≤ g) (u : Value) :
    (x.setCell ⟨g, 0, none⟩ u).ownsRow B T 1 (.slice (some ⟨g, 0, none⟩) 1 cap) 1 [u] := by
  refine ⟨rfl, .inr ⟨g, cap, _, rfl, hB, hset hg u, h1, hm, by simp [hs], ?_⟩⟩
  obtain ⟨l⟩ := cs
  match l, hs with
  | [], hs => simp at hs; omega
  | a :: r, _ => simp
theorem info_str : (Tryz.prog.info? 9).map (fun i => (i.zero, i.size, i.bytes)) = some (some (.string ⟨#[]⟩), 1, 16) := by kernel_rfl
/-- What compile answers: the names, and what stands beside them. -/
def Comp (w : World) (T : TypeId) (v : Value) (CQ : Nat → Value → Value → Prop) (vars : List ByteArray) : Prop :=
  (T = 91 ∧ RdC Value.string w v vars ∧ ∀ Q, CQ Q v (.map none)) ∨
  (T = 78 ∧ ∃ Q vv lc, v = .pointer (some ⟨Q, 0, none⟩) ∧ w.heap[Q]? = some (.cells #[vv, lc] 84 (0, 0)) ∧ RdC Value.string w vv vars ∧ CQ Q vv lc)
set_option maxRecDepth 100000 in
theorem compileK2 (v : Value) (w : World) : Calls Tryz.prog 128 #[v] w fun e w' => e = .returned v ∧ w = w' := by
  go_enter Tryz.func128, Tryz.ntmps128
  go_wp2_with fail
  go_ret
  exact ⟨rfl, rfl⟩
abbrev IDT' (D : Dsc) := idT D
abbrev IDM' (D : Dsc) := dimT D
theorem info_ptr : (Tryz.prog.info? 86).map (fun i => (i.zero, i.size, i.bytes)) = some (some (.pointer none), 1, 8) := by kernel_rfl
/-- The descriptor that is laid first. -/
def Made (CQ : Nat → Value → Value → Prop) (D : Dsc) (w0 : World) (dv : Value) (wx : World) : Prop :=
  ∃ (w : World) (Q : Nat) (vp : Option Addr) (vcap : Nat) (lc : Value), dv = .pointer (some ⟨w.heap.size, 0, none⟩) ∧ CQ Q (.slice vp D.vars.length vcap) lc ∧ Q < w.heap.size ∧ Below w0.heap.size w0 w ∧
    w.heap[Q]? = some (.cells #[.slice vp D.vars.length vcap, lc] 84 (0, 0)) ∧ RdC Value.string w (.slice vp D.vars.length vcap) D.vars ∧
    wx = w.alloc (.cells #[.string D.name, .string D.help, .string ⟨#[]⟩, .slice none 0 0, .pointer (some ⟨Q, 0, none⟩), .string ⟨#[]⟩, .string ⟨#[]⟩, .nilIface] 80)
set_option maxHeartbeats 100000000 in
set_option maxRecDepth 100000 in
theorem newDescS (D : Dsc) (CQ : Nat → Value → Value → Prop) (T : TypeId) (v : Value) (mp : Option Nat) (ob ub : Nat) (w0 : World)
    (hcomp : Comp w0 T v CQ D.vars)
    (ho : w0.cell? ⟨ob, 0, none⟩ = some (.func (.func 66) #[] #[.pointer (some ⟨ub, 0, none⟩)])) (hu : w0.cell? ⟨ub, 0, none⟩ = some (.string D.unit))
    (hvs : ∀ x ∈ D.vars, x.size ≤ 4194304) (hM : MapIs w0 mp D.cons) (hcs : ∀ x ∈ D.cons, Fine x)
    (hns : D.name.size ≤ maxLen) (hnz : D.name.size ≤ 4194304 ∧ D.help.size ≤ 4194304 ∧ D.unit.size ≤ 4194304) (hcz : ∀ x ∈ D.cons, x.1.size ≤ 4194304 ∧ x.2.size ≤ 4194304) (hcl : D.cons.length ≤ 4194304) (hvl : D.vars.length ≤ 4194304) (hT : UT w0) (hE : EV w0) (hS : Sep w0) :
    Calls Tryz.prog 54 #[.agg #[], .string D.name, .string D.help, .iface T v, .map mp, .slice (some ⟨ob, 0, none⟩) 1 1] w0
      fun e w' => SaidD CQ D w0 w' e := by
  have hmt : ∀ (v : Value) (z : World), Sem.run Tryz.prog (method 371 91 v "pub-dialplate/pub/clientgolang/prometheus.compile") z = .ok (131, v) z := fun _ _ => by kernel_rfl
  have hmt2 : ∀ (v : Value) (z : World), Sem.run Tryz.prog (method 371 78 v "pub-dialplate/pub/clientgolang/prometheus.compile") z = .ok (128, v) z := fun _ _ => by kernel_rfl
  have HO := Lib.hid ho
  have HU := Lib.hid hu
  have HM0 := Lib.hid hM
  have HT := Lib.hid hT
  have HE := Lib.hid hE
  have HS := Lib.hid hS
  have HVS := Lib.hid hvs
  have HCS := Lib.hid hcs
  have HNZ := Lib.hid hnz
  have HCZ := Lib.hid hcz
  have HCOMP := Lib.hid hcomp
  clear hT hE hS hM ho hu hvs hcs hnz hcz hcomp
  go_enter Tryz.func54, Tryz.ntmps54
  go_upto_region 1 with fail
  have hb1 : Below w0.heap.size w0 (w0.alloc (.cells #[] 89)) := (Below.refl _ w0).alloc (Nat.le_refl _) _
  have hs1 : (w0.alloc (.cells #[] 89)).heap.size = w0.heap.size + 1 := by simp
  have HB1 := Lib.hid hb1
  have HS1 := Lib.hid hs1
  clear hb1 hs1
  generalize (w0.alloc (.cells #[] 89)) = w1 at *
  go_cut [13] (fun dv wx => Made CQ D w0 dv wx)
  case first =>
    --<A
    rcases HCOMP.out with ⟨rfl, hv, hq⟩ | ⟨rfl, Q, vv, lc, rfl, hQ, hv, hq⟩
    · have hv1 := hv.below HB1.out
      obtain ⟨vp, vcap, vb, voff, rfl, hh⟩ := hv
      clear hh
      have HV1 := Lib.hid hv1
      have HQ := Lib.hid hq
      clear hv1 hq
      go_wp2_with (go_at_call 131; go_must (refine (compileK _ _ _ _).mono ?_))
      first | rintro e w2 rfl rfl | rintro e w2 ⟨rfl, rfl⟩
      have hsz : (w1.alloc (.cells #[.slice vp D.vars.length vcap, .map none] 84)).heap.size = w1.heap.size + 1 := by simp
      have HK : Hid (Below w0.heap.size w0 (w1.alloc (.cells #[.slice vp D.vars.length vcap, .map none] 84))) := Lib.hid (HB1.out.alloc HB1.out.size _)
      have HQ2 : Hid ((w1.alloc (.cells #[.slice vp D.vars.length vcap, .map none] 84)).heap[w1.heap.size]? = some (.cells #[.slice vp D.vars.length vcap, .map none] 84 (0, 0))) := Lib.hid (heap_alloc_new _ _)
      have HV2 : Hid (RdC Value.string (w1.alloc (.cells #[.slice vp D.vars.length vcap, .map none] 84)) (.slice vp D.vars.length vcap) D.vars) := Lib.hid (HV1.out.below ((Below.refl _ w1).alloc (Nat.le_refl _) _))
      go_wp2_with fail
      go_meet
      case rel => exact ⟨_, w1.heap.size, vp, vcap, .map none, by first | rfl | (rw [hsz]) | simp, HQ.out _, by simp, HK.out, HQ2.out, HV2.out, rfl⟩
    · have hv0 := hv
      obtain ⟨vp, vcap, vb, voff, rfl, hh⟩ := hv0
      have HV1 := Lib.hid (hv.below HB1.out)
      have HQ1 := Lib.hid (((Chg.of_below HB1.out Non).obj hQ (fun h => h)))
      have HQ := Lib.hid hq
      clear hh hv hQ hq
      go_wp2_with (go_at_call 128; go_must (refine (compileK2 _ _).mono ?_))
      first | rintro e w2 rfl rfl | rintro e w2 ⟨rfl, rfl⟩
      go_wp2_with fail
      go_meet
      case rel => exact ⟨w1, Q, vp, vcap, lc, rfl, HQ.out, (Array.getElem?_eq_some_iff.1 HQ1.out).1, HB1.out, HQ1.out, HV1.out, rfl⟩
    --A>
  case rest =>
  obtain ⟨w, Q, vp, vcap, lc, rfl, hcq, hQlt, hW0, hQw, hv, rfl⟩ := hcut
  have HW0 := Lib.hid hW0
  have HCQ := Lib.hid hcq
  have hT := HT.out.below hW0
  have hE := HE.out.below hW0
  have hS := HS.out.below hW0
  have hM := HM0.out.below hW0
  have ho := (hW0.cell (p := ⟨ob, 0, none⟩) (World.block_lt_of_cell? w0 _ HO.out)).trans HO.out
  have hu := (hW0.cell (p := ⟨ub, 0, none⟩) (World.block_lt_of_cell? w0 _ HU.out)).trans HU.out
  have HUT : Hid (∀ z, Below w.heap.size w z → UT z) := Lib.hid (fun z h => hT.below h)
  have HEV : Hid (∀ z, Below w.heap.size w z → EV z) := Lib.hid (fun z h => hE.below h)
  have HSP : Hid (∀ z, Below w.heap.size w z → Sep z) := Lib.hid (fun z h => hS.below h)
  have HVV : Hid (∀ z, Below w.heap.size w z → RdC Value.string z (.slice vp D.vars.length vcap) D.vars) := Lib.hid (fun z h => hv.below h)
  have HMM : Hid (∀ z, Below w.heap.size w z → MapIs z mp D.cons) := Lib.hid (fun z h => hM.below h)
  have HOP : Hid (∀ z, Below w.heap.size w z → z.cell? ⟨ob, 0, none⟩ = some (.func (.func 66) #[] #[.pointer (some ⟨ub, 0, none⟩)]) ∧ z.cell? ⟨ub, 0, none⟩ = some (.string D.unit)) :=
    Lib.hid (fun z h => ⟨(h.cell (p := ⟨ob, 0, none⟩) (World.block_lt_of_cell? w _ ho)).trans ho, (h.cell (p := ⟨ub, 0, none⟩) (World.block_lt_of_cell? w _ hu)).trans hu⟩)
  have HMB := Lib.hid hM.lt
  clear hT hE hS hv hM ho hu hW0 hcq
  have hb3 : Below w.heap.size w (w.alloc (.cells #[.string D.name, .string D.help, .string ⟨#[]⟩, .slice none 0 0, .pointer (some ⟨Q, 0, none⟩), .string ⟨#[]⟩, .string ⟨#[]⟩, .nilIface] 80)) := (Below.refl _ w).alloc (Nat.le_refl _) _
  have hs3 : (w.alloc (.cells #[.string D.name, .string D.help, .string ⟨#[]⟩, .slice none 0 0, .pointer (some ⟨Q, 0, none⟩), .string ⟨#[]⟩, .string ⟨#[]⟩, .nilIface] 80)).heap.size = w.heap.size + 1 := by simp
  have hD3 : DB (w.alloc (.cells #[.string D.name, .string D.help, .string ⟨#[]⟩, .slice none 0 0, .pointer (some ⟨Q, 0, none⟩), .string ⟨#[]⟩, .string ⟨#[]⟩, .nilIface] 80)) w.heap.size (.string D.name) (.string D.help) (.string ⟨#[]⟩) (.slice none 0 0) (.pointer (some ⟨Q, 0, none⟩)) (.string ⟨#[]⟩) (.string ⟨#[]⟩) .nilIface := heap_alloc_new _ _
  have hQ3 : (w.alloc (.cells #[.string D.name, .string D.help, .string ⟨#[]⟩, .slice none 0 0, .pointer (some ⟨Q, 0, none⟩), .string ⟨#[]⟩, .string ⟨#[]⟩, .nilIface] 80)).heap[Q]? = some (.cells #[.slice vp D.vars.length vcap, lc] 84 (0, 0)) :=
    (Below.heap_alloc _ _ Q hQlt).trans hQw
  have HQW := Lib.hid hQw
  have HQLT := Lib.hid hQlt
  clear hQw
  generalize (w.alloc (.cells #[.string D.name, .string D.help, .string ⟨#[]⟩, .slice none 0 0, .pointer (some ⟨Q, 0, none⟩), .string ⟨#[]⟩, .string ⟨#[]⟩, .nilIface] 80)) = w3 at *
  generalize hP : w.heap.size = P at hD3 hs3 hQlt ⊢
  clear hmt hmt2
  go_wp2_with fail
  go_loopw [40] (fun iv wx => (iv = .int .i64 0 ∧ wx = w3) ∨ (iv = .int .i64 1 ∧ wx = w3.setCell ⟨P, 2, none⟩ (.string D.unit))) (fun iv _ => 1 - (intOf iv).toNat)
  case atStart => exact .inl ⟨rfl, rfl⟩
  case round =>
    rcases hrel with ⟨rfl, rfl⟩ | ⟨rfl, rfl⟩
    · obtain ⟨o1, o2⟩ := HOP.out _ hb3
      have hC := Lib.hid (withUnitK P ub D.unit _ _ _ _ _ _ _ _ wr hD3 o2)
      go_wp2_with (go_at_call 66; go_must (refine hC.out.mono ?_))
      first | rintro e w4 rfl rfl | rintro e w4 ⟨rfl, rfl⟩
      go_wp2_with fail
      go_roundw
      case rel => exact .inr ⟨by go_num, by first | rfl | trivial⟩
      case measure => simp [intOf]
    · have hb4 : Below w.heap.size w (w3.setCell ⟨P, 2, none⟩ (.string D.unit)) := hb3.setCell (p := ⟨P, 2, none⟩) (by show w.heap.size ≤ P; omega) _
      have hs4 : (w3.setCell ⟨P, 2, none⟩ (.string D.unit)).heap.size = P + 1 := by simp [World.setCell]; omega
      have hD4 := hD3.set2 (.string D.unit)
      have hQ4 : (w3.setCell ⟨P, 2, none⟩ (.string D.unit)).heap[Q]? = some (.cells #[.slice vp D.vars.length vcap, lc] 84) := (Below.heap_setCell _ _ _ _ (by show Q ≠ P; omega)).trans hQ3
      clear hD3 hb3 hs3 hQ3
      generalize w3.setCell ⟨P, 2, none⟩ (.string D.unit) = w4 at *
      have HPQ : Hid (Q < P ∧ P = w.heap.size) := Lib.hid ⟨hQlt, hP.symm⟩
      have HS4 := Lib.hid hs4
      clear hP hs4 hQlt
      have HNM := Lib.hid (validMetric D.name w4 hns (HUT.out _ hb4))
      have f7 : w4.frozen? ⟨P, 7, none⟩ = false := by simp [World.frozen?, show w4.heap[P]? = _ from hD4]
      cases hnm : okName D.name with
      | false =>
        have HOK : Hid (descOk D = false) := Lib.hid (by unfold descOk; rw [hnm]; rfl)
        rw [hnm] at HNM
        clear hnm
        go_wp2_with (go_at_call 63; go_must (refine HNM.out.mono ?_))
        first | rintro e w5 rfl hb5 | rintro e w5 ⟨rfl, hb5⟩
        go_wp2_with (go_at_call 60; go_must (refine (errNew _ _).mono ?_))
        rintro e w6 ⟨⟨er, rfl, her⟩, hb6⟩
        have hb46 := hb5.trans (hb6.mono hb5.size)
        have hD6 : DB w6 P _ _ _ _ _ _ _ _ := hD4.chg (Chg.of_below hb46 Non) (fun h => h)
        have c7 : w6.cell? ⟨P, 7, none⟩ = some .nilIface := by rw [Lib.cell_of_heap hD6]; rfl
        have f6 : w6.frozen? ⟨P, 7, none⟩ = false := by simp [World.frozen?, show w6.heap[P]? = _ from hD6]
        obtain ⟨et, ex, rfl⟩ := her
        have HBAD := Lib.hid (bad_said (CQ := CQ) (w0 := w0) (er' := .iface et ex) hD6 (hb4.trans (hb46.mono hb4.size)) (by have := HPQ.out; omega) ⟨et, ex, rfl⟩ HOK.out HW0.out)
        clear hD4 hD6 hQ4 hb46
        go_wp2_with fail
        go_ret
        exact HBAD.out
      | true =>
        rw [hnm] at HNM
        have HNT := Lib.hid hnm
        clear hnm
        go_wp2_with (go_at_call 63; go_must (refine HNM.out.mono ?_))
        first | rintro e w5 rfl hb5 | rintro e w5 ⟨rfl, hb5⟩
        have hD5 : DB w5 P _ _ _ _ _ _ _ _ := hD4.chg (Chg.of_below hb5 Non) (fun h => h)
        have hQ5 : w5.heap[Q]? = _ := (Chg.of_below hb5 Non).obj hQ4 (fun h => h)
        have hbw5 := hb4.trans (hb5.mono hb4.size)
        have hs5 := hb5.size
        clear hD4 hQ4 hb4 hb5 f7
        have hM5 := HMM.out _ hbw5
        have hsz5 := hM5.size_le
        have hln : ∀ z : World, Below w.heap.size w z → Sem.run Tryz.prog (Builtin.len_ #[72] 3 #[.map mp]) z = .ok (.int .i64 (Maps.size (mD D.cons))) z := fun z h => (HMM.out z h).len
        generalize hmn : Maps.size (mD D.cons) = mn at *
        have HLN := Lib.hid hln
        have hln5 := hln w5 hbw5
        clear hln
        have HMN := Lib.hid hmn
        have hmk : ∀ z : World, Sem.run Tryz.prog (Instr.makeSlice 22 (.int .i64 1) (.int .i64 ((mn : Int) + 1))) z = .ok (.slice (some ⟨z.heap.size, 0, none⟩) 1 (mn + 1)) (z.alloc (.cells (madeCells #[.string ⟨#[]⟩] (mn + 1)) 9)) := fun z => by
          obtain ⟨q0, hq, hy0, hy1, hy2⟩ := info_parts info_str
          have h := run_make (P := Tryz.prog) z 22 9 q0 (.string ⟨#[]⟩) Tryz.underlying22 hq hy0 .i64 .i64 1 ((mn : Int) + 1) (by omega) (by omega) (by rw [hy2]; omega) (by omega)
          rw [hy1] at h
          have e2 : ((mn : Int) + 1).toNat = mn + 1 := by omega
          rw [e2, Nat.mul_one] at h
          exact h
        clear hmn
        go_upto_region 11 with fail
        have hg6 := heap_alloc_new w5 (.cells (madeCells #[.string ⟨#[]⟩] (mn + 1)) 9)
        have hb6 : Below w.heap.size w (w5.alloc (.cells (madeCells #[.string ⟨#[]⟩] (mn + 1)) 9)) := hbw5.alloc hbw5.size _
        have hc56 : Chg Non w5 (w5.alloc (.cells (madeCells #[.string ⟨#[]⟩] (mn + 1)) 9)) := (Chg.refl _ _).alloc _
        have hD6 : DB (w5.alloc (.cells (madeCells #[.string ⟨#[]⟩] (mn + 1)) 9)) P _ _ _ _ _ _ _ _ := hD5.chg hc56 (fun h => h)
        have hQ6 : (w5.alloc (.cells (madeCells #[.string ⟨#[]⟩] (mn + 1)) 9)).heap[Q]? = _ := hc56.obj hQ5 (fun h => h)
        have HPg : Hid (P < w5.heap.size) := Lib.hid (Array.getElem?_eq_some_iff.1 hD5).1
        have hs6 : (w5.alloc (.cells (madeCells #[.string ⟨#[]⟩] (mn + 1)) 9)).heap.size = w5.heap.size + 1 := by simp
        have hcz : (w5.alloc (.cells (madeCells #[.string ⟨#[]⟩] (mn + 1)) 9)).cell? ⟨w5.heap.size, 0, none⟩ = some (.string ⟨#[]⟩) := by
          rw [Lib.cell_of_heap hg6]; simp [madeCells]
        have hfz : (w5.alloc (.cells (madeCells #[.string ⟨#[]⟩] (mn + 1)) 9)).frozen? ⟨w5.heap.size, 0, none⟩ = false := Lib.frozen_of_heap hg6 0
        have HG5 : Hid (w.heap.size ≤ w5.heap.size) := Lib.hid hbw5.size
        clear hD5 hQ5 hmk hc56 hs5
        generalize (w5.alloc (.cells (madeCells #[.string ⟨#[]⟩] (mn + 1)) 9)) = w6 at *
        generalize w5.heap.size = g at *
        have hrow := row_made1 (B := w.heap.size) hg6 (size_madeCells _ _) (by omega) (by unfold maxLen; omega) HG5.out (.string D.name)
        have hb7 : Below w.heap.size w (w6.setCell ⟨g, 0, none⟩ (.string D.name)) := hb6.setCell (p := ⟨g, 0, none⟩) (by show w.heap.size ≤ g; exact HG5.out) _
        have hc67 : Chg (fun i => i = g) w6 (w6.setCell ⟨g, 0, none⟩ (.string D.name)) := (Chg.refl (fun i => i = g) _).setCell (p := ⟨g, 0, none⟩) (.inl rfl) _
        have hPg : ¬ P = g := by have := HPg.out; omega
        have hQg : ¬ Q = g := by have := HPg.out; have := HPQ.out; omega
        have hD7 : DB (w6.setCell ⟨g, 0, none⟩ (.string D.name)) P _ _ _ _ _ _ _ _ := hD6.chg hc67 hPg
        have hQ7 : (w6.setCell ⟨g, 0, none⟩ (.string D.name)).heap[Q]? = _ := hc67.obj hQ6 hQg
        have hs7 : (w6.setCell ⟨g, 0, none⟩ (.string D.name)).heap.size = g + 1 := by simp [World.setCell]; exact hs6
        clear hD6 hQ6 hg6 hb6 hs6 hc67
        have HPg2 := Lib.hid hPg
        have HQg2 := Lib.hid hQg
        clear hPg hQg
        go_upto_region 12 with fail
        generalize w6.setCell ⟨g, 0, none⟩ (.string D.name) = w7 at *
        clear hcz hfz
        have hb8 : Below w.heap.size w w7.drew := hb7.drew
        have hD8 : DB w7.drew P _ _ _ _ _ _ _ _ := hD7
        have hQ8 : w7.drew.heap[Q]? = _ := hQ7
        have hs8 : w7.drew.heap.size = g + 1 := hs7
        have hrow8 : w7.drew.ownsRow w.heap.size 9 1 (.slice (some ⟨g, 0, none⟩) 1 (mn + 1)) 1 [.string D.name] := hrow
        clear hb7 hD7 hQ7 hs7 hrow
        refine wp_region_still_tail 11 (by kernel_rfl) (by kernel_rfl) ?_
        simp only [List.take_succ_cons, List.take_zero, List.drop_succ_cons, List.drop_zero]
        show wpStill _ _ w7.drew (fun a' => wpList _ _ _ _ a' w7.drew) _ _
        generalize w7.drew = w8 at *
        have c4 : w8.cell? ⟨P, 4, none⟩ = some (.pointer (some ⟨Q, 0, none⟩)) := by rw [Lib.cell_of_heap hD8]; rfl
        have q0 : w8.cell? ⟨Q, 0, none⟩ = some (.slice vp D.vars.length vcap) := by rw [Lib.cell_of_heap hQ8]; rfl
        have hln8 := HLN.out w8 hb8
        have hsz5' : mn ≤ 4194304 := Nat.le_trans hsz5 hcl
        have hwr : IntKind.i64.wrap ((mn : Int) + (D.vars.length : Int)) = (mn : Int) + (D.vars.length : Int) := IntWalk.i64_in _ ⟨by omega, by omega⟩
        repeat still_step
        refine wpStill_nil ?_
        obtain ⟨z0, hzi, hzz, hzs, hzb⟩ := info_parts info_str
        have hmm := @run_makeMap Tryz.prog
        have hgw : w.heap.size ≤ w8.heap.size := hb8.size
        go_wp2_with (at_make; go_must (refine wpList_make_own _ rfl _ _ 22 rfl w.heap.size 9 z0 (.string ⟨#[]⟩) 1 Tryz.underlying22 hzi hzz hzs .i64 .i64 _ (mn + D.vars.length) rfl rfl (by first | omega | exact hwr.trans (by omega)) (by rw [hzb]; omega) (by unfold maxLen; omega) hgw ?_))
        intro w9 hrow9 hg9
        have hc9 : Chg Non w8 w9 := (Chg.refl _ _).grown hg9 (fun q h => by cases h)
        have hb9 : Below w.heap.size w w9 := hb8.trans (hc9.non.mono hb8.size)
        have hD9 : DB w9 P _ _ _ _ _ _ _ _ := hD8.chg hc9 (fun h => h)
        have hQ9 := hc9.obj hQ8 (fun h => h)
        have hrowA := hc9.row hrow8 (fun q _ h => h)
        have HN9 : Hid (g + 1 < w9.heap.size) := Lib.hid (row_from hrow9 _ rfl).2
        clear hD8 hQ8 hb8 hrow8 hc9 c4 q0 hln8 hwr hg9 hs8 hgw
        go_upto_region 14 with fail
        have hset : (w9.alloc (.map #[] 0)).ownsMap (H := Unit) Tryz.prog 9 unitElem w9.heap.size 0 (.map []) := World.ownsMap_made _ _ _ _
        have hcA : Chg Non w9 (w9.alloc (.map #[] 0)) := (Chg.refl _ _).alloc _
        have hbA : Below w.heap.size w (w9.alloc (.map #[] 0)) := hb9.trans (hcA.non.mono hb9.size)
        have hDA : DB (w9.alloc (.map #[] 0)) P _ _ _ _ _ _ _ _ := hD9.chg hcA (fun h => h)
        have hQA := hcA.obj hQ9 (fun h => h)
        have hrowB := hcA.row hrowA (fun q _ h => h)
        have hrowC := hcA.row hrow9 (fun q _ h => h)
        have HMw : Hid (w.heap.size ≤ w9.heap.size) := Lib.hid hb9.size
        have HMa : Hid ((w9.alloc (.map #[] 0)).heap.size = w9.heap.size + 1) := Lib.hid (by simp)
        clear hD9 hQ9 hb9 hrowA hrow9 hcA
        generalize w9.alloc (.map #[] 0) = wA at *
        generalize w9.heap.size = M at *
        have hMA := HMM.out _ hbA
        go_upto_block 2 with (at_range; go_must (refine range_lab D.cons mp rfl _ rfl rfl hMA ?_); intro wB hrg hgB hsB)
        go_frame
        have hcB : Chg Non wA wB := (Chg.refl _ _).grown hgB (fun q h => by cases h)
        have hrowC' := hcB.row hrowC (fun q _ h => h)
        have hset' := hcB.map hset (fun h => h)
        have HDA := Lib.hid hDA
        have HQA := Lib.hid hQA
        have HRB := Lib.hid hrowB
        have HPN : Hid (¬ (P = g + 1 ∨ P = M) ∧ ¬ (Q = g + 1 ∨ Q = M) ∧ ¬ (g = g + 1 ∨ g = M) ∧ w.heap.size ≤ P) := Lib.hid (by have := HPg.out; have := HN9.out; have := HPQ.out; omega)
        have HK0 : Hid (Collected (mD D.cons) (Maps.has (mD D.cons)) []) := Lib.hid (Collected.start _)
        have HCB := Lib.hid hcB
        have hrA : ¬ wA.heap.size = g + 1 := by have := HN9.out; have := HMa.out; omega
        have hrM : ¬ wA.heap.size = M := by have := HMa.out; omega
        have hMg : ¬ M = g + 1 := by have := HN9.out; omega
        have hbAs := hbA.size
        have HF := Lib.hid (And.intro hrA (And.intro hrM hMg))
        rw [HMN.out] at hrg
        clear hDA hQA hrowB hrowC hset hgB hsB hcB hMA hrA hrM hMg
        generalize hr : wA.heap.size = r at *
        have HR := Lib.hid hr
        clear hr
        go_cut [17] (fun nv wx => ∃ ss DS cap N', ss.Perm (D.keys.map bs) ∧ ss.length ≤ mn ∧ nv = .slice (some ⟨N', 0, none⟩) ss.length cap ∧ wx.ownsRow w.heap.size 9 1 nv ss.length (ss.map encStr) ∧ wx.ownsMap Tryz.prog 9 unitElem M ss.length DS ∧ SetIs DS ss ss.length ∧ D.keys.all okLbl = true ∧ Chg (fun i => i = g + 1 ∨ i = M) wA wx ∧ (N' = g + 1 ∨ r ≤ N'))
        case first =>
          --<D
          go_wp2_with fail
          go_loopw [17] (fun nv wx => ∃ left cnt ss DS cap N', Rng wx mp r D.cons left cnt ∧ Collected (mD D.cons) left ss ∧ ss.length + cnt ≤ mn ∧ nv = .slice (some ⟨N', 0, none⟩) ss.length cap ∧ wx.ownsRow w.heap.size 9 1 (.slice (some ⟨N', 0, none⟩) ss.length cap) ss.length (ss.map encStr) ∧ wx.ownsMap Tryz.prog 9 unitElem M ss.length DS ∧ SetIs DS ss ss.length ∧ Hid (∀ x ∈ ss, okLbl ⟨x.toArray⟩ = true) ∧ Chg (fun i => i = g + 1 ∨ i = M) wA wx ∧ (N' = g + 1 ∨ r ≤ N')) (fun _ wx => rleft wx mp r)
          case atStart => exact ⟨_, _, [], .map [], _, _, hrg, HK0.out, by simp, rfl, hrowC', hset', SetIs.nil, Lib.hid (by simp), HCB.out.mono (fun i h => h.elim), .inl rfl⟩
          case round =>
            obtain ⟨left, cnt, ss, DS, cap, N', hrgx, hcol, hcnt, rfl, hnr, hst, hsi, HAL, hch, hN'⟩ := hrel
            have HCOL := Lib.hid hcol
            have HSI := Lib.hid hsi
            have HCH := Lib.hid hch
            clear hcol hsi hch hrg hrowC' hset' HK0
            go_wp2_with (at_next; go_must (refine next_rng D.cons wr mp r cnt left rfl _ rfl rfl hrgx ?_ ?_))
            · intro hl0
              have HPM := Lib.hid (coll_perm HCOL.out hl0)
              have HAK : Hid (D.keys.all okLbl = true) := Lib.hid (List.all_eq_true.2 fun k hk => by
                have h1 : bs k ∈ ss := HPM.out.mem_iff.2 (List.mem_map.2 ⟨k, hk, rfl⟩)
                have h2 := HAL.out _ h1
                rwa [show (⟨(bs k).toArray⟩ : ByteArray) = k from bs_inj (bs_of _)] at h2)
              go_wp2_with fail
              go_meet
              case rel => exact ⟨ss, DS, cap, N', HPM.out, by omega, rfl, hnr, hst, HSI.out, HAK.out, HCH.out, hN'⟩
            · intro x t wx hN
              have hen := hN.entry
              have hkey := hN.key
              have HRL := Lib.hid hrgx.left_eq
              obtain ⟨cnt', hrg1, hlt⟩ := hN.rng
              have HNI : Hid (bs x ∉ ss) := Lib.hid (fun h => by have h2 := ((HCOL.out.2 (bs x)).1 h).2; rw [show (.string (bs x) : Lit) = keyL x from rfl, hN.here] at h2; cases h2)
              have HCOL2 := Lib.hid (HCOL.out.step (x := bs x) hN.here hN.at')
              have hmem : x ∈ D.keys := look_key.1 (by rw [hN.val]; rfl)
              have hnir : some r ≠ (Value.slice (some ⟨N', 0, none⟩) ss.length cap).ownBlock := row_ne_rng hnr hrgx
              have hN'r : N' ≠ r := fun e => hnir (by rw [e]; rfl)
              have hrM : M ≠ r := fun e => HF.out.2.1 e.symm
              have hnr1 := hnr.kept hN.grown (.inr fun e => hnir e.symm)
              have hst1 := hst.kept hN.grown (by simp; exact hrM)
              have hch1 : Chg (fun i => i = g + 1 ∨ i = M) wA wx := HCH.out.grown hN.grown (fun q h => by cases h; exact .inr (Nat.le_of_eq HR.out))
              have hb1x : Below w.heap.size w wx := hbA.trans (hch1.below (by intro i hi; rcases hi with h | h <;> have := HMw.out <;> have := HG5.out <;> omega) (by rw [HR.out]; exact hbAs))
              have HCK := Lib.hid (checkLabel x wx hN.sizeK (HUT.out _ hb1x))
              clear hnr hst hnir hrgx hN
              cases hok : okLbl x with
              | false =>
                have HOK : Hid (descOk D = false) := Lib.hid (by
                  have h2 : (fit D.cons).all (fun p => okLbl p.1) = false := by
                    obtain ⟨p, hp, he⟩ := List.mem_map.1 hmem
                    rw [List.all_eq_false]
                    exact ⟨p, hp, by rw [he, hok]; simp⟩
                  unfold descOk
                  rw [h2]
                  simp)
                rw [hok] at HCK
                clear hok hmem
                go_wp2_with (go_at_call 64; go_must (refine HCK.out.mono ?_))
                first | rintro e w5' rfl hb5 | rintro e w5' ⟨rfl, hb5⟩
                go_wp2_with (go_at_call 60; go_must (refine (errNew _ _).mono ?_))
                rintro e w6' ⟨⟨er, rfl, her⟩, hb6⟩
                have hb46 := hb5.trans (hb6.mono hb5.size)
                have hD5 : DB wx P _ _ _ _ _ _ _ _ := HDA.out.chg hch1 HPN.out.1
                have hD6 : DB w6' P _ _ _ _ _ _ _ _ := hD5.chg (Chg.of_below hb46 Non) (fun h => h)
                have c7 := hD6.c7
                have f7 := hD6.fz 7
                have HBAD := Lib.hid (bad_said (CQ := CQ) (w0 := w0) hD6 (hb1x.trans (hb46.mono hb1x.size)) HPN.out.2.2.2 her HOK.out HW0.out)
                obtain ⟨et, ex, rfl⟩ := her
                clear hD5 hD6 hb46 hnr1 hst1 hrg1 hch1
                go_wp2_with fail
                go_ret
                exact HBAD.out
              | true =>
                rw [hok] at HCK
                have HAL2 : Hid (∀ y ∈ ss ++ [bs x], okLbl ⟨y.toArray⟩ = true) := Lib.hid (fun y hy => by
                  rcases List.mem_append.1 hy with hy | hy
                  · exact HAL.out y hy
                  · rw [List.mem_singleton.1 hy, show (⟨(bs x).toArray⟩ : ByteArray) = x from bs_inj (bs_of _)]; exact hok)
                clear hok hmem
                go_wp2_with (go_at_call 64; go_must (refine HCK.out.mono ?_))
                first | rintro e wy rfl hb5 | rintro e wy ⟨rfl, hb5⟩
                have hcy : Chg Non wx wy := Chg.of_below hb5 Non
                have hnr2 := hcy.row hnr1 (fun q _ h => h)
                have hst2 := hcy.map hst1 (fun h => h)
                have hrg2 := hrg1.kept (hcy.grownBy none) (fun _ _ h => by cases h) (by simp)
                have hch2 : Chg (fun i => i = g + 1 ∨ i = M) wA wy := hch1.trans hcy (fun i h => h.elim)
                have hwy : w.heap.size ≤ wy.heap.size := Nat.le_trans hb1x.size hcy.size
                have HNLT : Hid (N' < wy.heap.size ∧ M < wy.heap.size ∧ r < wy.heap.size) := Lib.hid ⟨(row_from hnr2 _ rfl).2, hst2.lt, hrg2.lt⟩
                clear hnr1 hst1 hrg1 hch1 hcy hb5
                go_wp2_with (at_builtin; go_must (refine wpList_append_own_at _ rfl _ _ 22 rfl w.heap.size 9 z0 (.string ⟨#[]⟩) 1 16 Tryz.underlying22 hzi hzz hzs hzb rfl (by decide) _ _ _ rfl (hnr2.alloc _) ⟨wy.heap.size, 0, none⟩ 1 1 [.string x] rfl rfl (cell_one_new _ _ _) (by simp [Value.oneCell']) (by unfold maxLen; omega) (by omega) (by simp; omega) ?_))
                intro v' wz hown3 hg3 hnil hloc
                obtain ⟨N2, cap2, rfl⟩ := row_shape hown3 (Nat.succ_pos _)
                have hloc2 : N2 = N' ∨ N2 = wy.heap.size + 1 := by
                  rcases hloc with h | h
                  · exact .inl (by injection h)
                  · exact .inr (by injection h)
                have hall : wy.grownBy wz (some N') := (World.grownBy_alloc wy _ _).trans hg3
                have HNM : Hid (M ≠ N' ∧ (∀ b, mp = some b → b ≠ N' ∧ b ≠ M) ∧ (N' = g + 1 ∨ wA.heap.size ≤ N')) := Lib.hid ⟨by have := HF.out; have := HMa.out; have := HR.out; omega, fun b hb => by have := HMB.out b hb; have := HF.out; have := HMa.out; have := HR.out; have := HG5.out; have := HMw.out; omega, by have := HR.out; omega⟩
                have hst3 := hst2.kept hall (by intro e; injection e with e; exact HNM.out.1 e)
                have hrg3 := hrg2.kept hall (fun b hb e => by injection e with e; exact (HNM.out.2.1 b hb).1 e) (by intro e; injection e with e; exact hN'r e.symm)
                have hch3 : Chg (fun i => i = g + 1 ∨ i = M) wA wz := hch2.grown hall (fun q h => by cases h; exact HNM.out.2.2.imp .inl id)
                have HN2 : Hid (N2 ≠ M ∧ (N2 = g + 1 ∨ r ≤ N2)) := Lib.hid (by have := HNM.out; have := HNLT.out; have := HR.out; omega)
                have HRW : Hid (List.map encStr ss ++ [.string x] = (ss ++ [bs x]).map encStr) := Lib.hid (by rw [List.map_append]; simp [encStr, bs])
                have hwz : w.heap.size ≤ wz.heap.size := Nat.le_trans hwy hall.size
                clear hst2 hrg2 hch2 hnr2 hg3 hloc hall hnil hloc2
                go_wp2_with (at_mapUpdate; go_must (refine wpList_mapUpdate_own _ rfl _ _ _ 114 rfl 9 88 lawS Tryz.underlying114 unitElem M ss.length DS rfl hst3 (by unfold maxLen; omega) _ _ (keyL x) rfl rfl hkey (.agg []) [] unitElem_mk ?_))
                intro wv hown4 hg4
                have hrow4 := hown3.kept hg4 (.inr (by intro e; injection e with e; exact HN2.out.1 e))
                have hrg4 := hrg3.kept hg4 (fun b hb e => by injection e with e; exact (HNM.out.2.1 b hb).2 e) (by intro e; injection e with e; exact hrM e.symm)
                have hch4 : Chg (fun i => i = g + 1 ∨ i = M) wA wv := hch3.grown hg4 (fun q h => by cases h; exact .inl (.inr rfl))
                have HS4 : Hid (SetIs (DS.put (keyL x) (.agg [])) (ss ++ [bs x]) (ss.length + 1)) := Lib.hid (by have h := HSI.out.put (bs x) (.agg []); rwa [if_neg HNI.out] at h)
                have HL4 : Hid ((ss ++ [bs x]).length = ss.length + 1) := Lib.hid (by simp)
                clear hst3 hrg3 hch3 hown3 hg4
                go_wp2_with fail
                go_roundw
                case rel =>
                  refine ⟨_, cnt', ss ++ [bs x], DS.put (keyL x) (.agg []), cap2, N2, hrg4, HCOL2.out, by rw [HL4.out]; omega, by rw [HL4.out], ?_, ?_, ?_, HAL2, hch4, HN2.out.2⟩
                  · rw [HL4.out, ← HRW.out]; exact hrow4
                  · rw [HL4.out]; exact hown4
                  · rw [HL4.out]; exact HS4.out
                case measure => rw [hrg4.left_eq, HRL.out]; omega
          --D>
        case rest =>
          obtain ⟨ss, DS, cap, N', hperm, hlen, rfl, hnr, hst, hsi, hak, hch, hN'⟩ := hcut
          have HSL : Hid (ss.length = D.keys.length) := Lib.hid (by rw [hperm.length_eq, List.length_map])
          have HSRT : Hid (ss.mergeSort leB = D.keys.map bs) := Lib.hid ((mergeSort_of_perm hperm).trans (keys_sort D.cons))
          have HPERM := Lib.hid hperm
          have HSI := Lib.hid hsi
          have HAK := Lib.hid hak
          have HNN : Hid (N' ≠ M ∧ (N' = g + 1 ∨ wA.heap.size ≤ N')) := Lib.hid (by have := HF.out; have := HMa.out; have := HR.out; omega)
          clear hperm hsi hak hN' hrg hrowC' hset'
          generalize wc = wC at *
          go_wp2_with (go_at_call 65; go_must (refine (sortK ss wC hnr (by omega)).mono ?_))
          rintro e wD ⟨rfl, hnr2, hcs⟩
          have hchD : Chg (fun i => i = g + 1 ∨ i = M) wA wD := hch.trans hcs (fun i h => by subst h; exact HNN.out.2.imp .inl id)
          have hstD := hcs.map hst (fun h => HNN.out.1 h.symm)
          rw [HSRT.out] at hnr2
          clear hnr hst hch hcs
          have hrD := hchD.row HRB.out (fun q hq => by injection hq with hq; rw [← hq]; exact HPN.out.2.2.1)
          have hbD : Below w.heap.size w wD := hbA.trans (hchD.below (by intro i hi; rcases hi with h | h <;> have := HMw.out <;> have := HG5.out <;> omega) (by rw [HR.out]; exact hbAs))
          obtain ⟨hnc1, hnc2, hnN, hnl, hncell⟩ := row_at hnr2
          have HNR := Lib.hid hnr2
          have HNCL := Lib.hid hncell
          have HRD := Lib.hid hrD
          have HCHD := Lib.hid hchD
          have HNg : Hid (N' ≠ g ∧ g < wD.heap.size) := Lib.hid (by have := HNN.out; have := HR.out; have := HN9.out; have := HMa.out; omega)
          have HVAL : Hid (∀ (k : Nat) (x : Ent), (fit D.cons)[k]? = some x → look x.1 (fit D.cons) = some x.2) := Lib.hid (fun k x hx => mem_look (fit_srt _).once (List.mem_iff_getElem?.2 ⟨k, hx⟩))
          have HKY : Hid (∀ (k : Nat) (x : Ent), (fit D.cons)[k]? = some x → wD.cell? ⟨N', k, none⟩ = some (.string x.1)) := Lib.hid (fun k x hx => HNCL.out k _ (by rw [List.getElem?_map, List.getElem?_map, Dsc.keys, List.getElem?_map, hx]; simp [encStr, bs]))
          have HFL : Hid (ss.length = (fit D.cons).length) := Lib.hid (by rw [HSL.out, Dsc.keys, List.length_map])
          have HFI : Hid (∀ x ∈ fit D.cons, Fine x) := Lib.hid (fun x hx => HCS.out x (fit_look_mem hx))
          clear hncell hnr2 hrD hchD hnl
          go_upto_block 4 with fail
          go_cut [16] (fun lv wx => ∃ G cap', lv = .slice (some ⟨G, 0, none⟩) (ss.length + 1) cap' ∧ wx.ownsRow w.heap.size 9 1 lv (ss.length + 1) ((D.name :: (fit D.cons).map (·.2)).map Value.string) ∧ Chg (fun i => i = g) wD wx ∧ (G = g ∨ wD.heap.size ≤ G))
          case first =>
            --<E
            go_wp2_with fail
            go_loopw [16, 101] (fun lv iv wx => ∃ k G cap' : Nat, k ≤ ss.length ∧ iv = .int .i64 (k : Int) ∧ lv = .slice (some ⟨G, 0, none⟩) (k + 1) cap' ∧ wx.ownsRow w.heap.size 9 1 (.slice (some ⟨G, 0, none⟩) (k + 1) cap') (k + 1) ((D.name :: ((fit D.cons).take k).map (·.2)).map Value.string) ∧ Chg (fun i => i = g) wD wx ∧ (G = g ∨ wD.heap.size ≤ G)) (fun _ iv _ => ss.length - (intOf iv).toNat)
            case atStart => exact ⟨0, g, _, Nat.zero_le _, rfl, rfl, HRD.out, Chg.refl _ _, .inl rfl⟩
            case round =>
              obtain ⟨k, G, cap', hk, rfl, rfl, hlv, hcx, hG⟩ := hrel
              have HGG := Lib.hid hG
              have hbx : Below w.heap.size w wr := hbD.trans (hcx.below (by intro i hi; have := HG5.out; omega) hbD.size)
              by_cases hlt : k < ss.length
              · have hlti : (k : Int) < (ss.length : Int) := by omega
                have hltf : k < (fit D.cons).length := by rw [← HFL.out]; exact hlt
                have hx := List.getElem?_eq_getElem hltf
                have ck := hcx.at (HKY.out k _ hx) (by exact fun e => HNg.out.1 e)
                have hlk := (HMM.out _ hbx).look (HFI.out _ (List.getElem_mem hltf)).1 (HVAL.out k _ hx)
                have HTK : Hid ((fit D.cons).take (k + 1) = (fit D.cons).take k ++ [(fit D.cons)[k]]) := Lib.hid (List.take_succ_eq_append_getElem hltf)
                generalize (fit D.cons)[k] = p at *
                generalize (fit D.cons).take k = fk at *
                obtain ⟨px, pt⟩ := p
                simp only at ck hlk
                clear hx hG
                have HGL : Hid (G < wr.heap.size) := Lib.hid (row_from hlv _ rfl).2
                have hwr1 : w.heap.size ≤ wr.heap.size := hbx.size
                go_wp2_with (at_builtin; go_must (refine wpList_append_own_at _ rfl _ _ 22 rfl w.heap.size 9 z0 (.string ⟨#[]⟩) 1 16 Tryz.underlying22 hzi hzz hzs hzb rfl (by decide) _ _ _ rfl (hlv.alloc _) ⟨wr.heap.size, 0, none⟩ 1 1 [.string pt] rfl rfl (cell_one_new _ _ _) (by simp [Value.oneCell']) (by unfold maxLen; omega) (by omega) (by simp; omega) ?_))
                intro v' wz hown3 hg3 hnil hloc
                obtain ⟨G2, cap2, rfl⟩ := row_shape hown3 (Nat.succ_pos _)
                have hloc2 : G2 = G ∨ G2 = wr.heap.size + 1 := by
                  rcases hloc with h | h
                  · exact .inl (by injection h)
                  · exact .inr (by injection h)
                have hall : wr.grownBy wz (some G) := (World.grownBy_alloc wr _ _).trans hg3
                have hch3 : Chg (fun i => i = g) wD wz := hcx.grown hall (fun q h => by cases h; exact HGG.out)
                have HG2 : Hid (G2 = g ∨ wD.heap.size ≤ G2) := Lib.hid (by have := HGG.out; have := hcx.size; omega)
                have HOW : Hid (wz.ownsRow w.heap.size 9 1 (.slice (some ⟨G2, 0, none⟩) (k + 1 + 1) cap2) (k + 1 + 1) ((D.name :: (fk ++ [(px, pt)]).map (·.2)).map Value.string)) := Lib.hid (by simpa using hown3)
                clear hcx hlv hown3 hg3 hloc hloc2 hall hnil
                go_wp2_with fail
                go_roundw
                case rel => exact ⟨k + 1, G2, cap2, by omega, by go_num, rfl, by rw [HTK.out]; exact HOW.out, hch3, HG2.out⟩
                case measure => simp [intOf]; omega
              · have hkl : k = ss.length := by omega
                have hlti : ¬ (k : Int) < (ss.length : Int) := by omega
                rw [hkl, HFL.out, List.take_length, ← HFL.out] at hlv
                subst hkl
                go_wp2_with fail
                go_meet
                case rel => exact ⟨G, cap', rfl, hlv, hcx, HGG.out⟩
            --E>
          case rest =>
            obtain ⟨G, cap', rfl, hlv, hcE, hG⟩ := hcut
            have HFV : Hid (ss.length + 1 = (D.name :: (fit D.cons).map (·.2)).length) := Lib.hid (by rw [HFL.out, List.length_cons, List.length_map])
            have HLV := Lib.hid hlv
            generalize wc = wE at *
            have hbE : Below w.heap.size w wE := hbD.trans (hcE.below (by intro i hi; have := HG5.out; omega) hbD.size)
            have HGE : Hid (G ≠ N' ∧ G ≠ M ∧ G ≠ P ∧ G ≠ Q ∧ G < wE.heap.size) := Lib.hid (by
              have h1 : G < wE.heap.size := (row_from hlv _ rfl).2
              have := HNN.out; have := HR.out; have := HN9.out; have := HMa.out; have := HPg.out; have := HPQ.out; have := HNg.out; have := HCHD.out.size
              have h2 : N' < wD.heap.size := (row_from HNR.out _ rfl).2
              omega)
            have HVL := Lib.hid (validVals (.slice (some ⟨G, 0, none⟩) (ss.length + 1) cap') (D.name :: (fit D.cons).map (·.2)) (ss.length + 1) wE
              (by
                obtain ⟨r1, r2, r3, r4, r5⟩ := row_at hlv
                rw [HFV.out] at r1 ⊢
                exact ⟨_, _, G, 0, rfl, r1, r2, .inr rfl, fun i x hx => by rw [Nat.zero_add]; exact r5 i _ (by rw [List.getElem?_map, hx]; rfl)⟩)
              (by
                intro x hx
                rcases List.mem_cons.1 hx with rfl | hx
                · exact hns
                · obtain ⟨p, hp, rfl⟩ := List.mem_map.1 hx
                  exact (HFI.out p hp).2)
              (by unfold maxLen; omega) (HUT.out _ hbE) (HEV.out _ hbE))
            rw [decide_eq_true HFV.out.symm, Bool.true_and] at HVL
            have HCE := Lib.hid hcE
            have hwE : w.heap.size ≤ wE.heap.size := hbE.size
            clear hlv hcE hG
            have hwr2 : IntKind.i64.wrap ((ss.length : Int) + 1) = (ss.length : Int) + 1 := IntWalk.i64_in _ ⟨by omega, by omega⟩
            go_wp2_with (go_at_call 49; go_must (refine HVL.out.mono ?_))
            rintro e wF ⟨⟨rv, rfl, hr1, hr2⟩, hbF⟩
            have hcF : Chg Non wE wF := Chg.of_below hbF Non
            have hbwF := hbE.trans (hbF.mono hwE)
            have HDE : Hid (DB wE P _ _ _ _ _ _ _ _) := Lib.hid ((HDA.out.chg HCHD.out HPN.out.1).chg HCE.out (by have := HPg.out; omega))
            cases hva : (D.name :: (fit D.cons).map (·.2)).all vU with
            | false =>
              obtain ⟨et, ex, rfl⟩ := hr2 hva
              have HOK : Hid (descOk D = false) := Lib.hid (by
                unfold descOk
                rw [List.all_cons] at hva
                have hn : vU D.name = true := by have h := HNT.out; unfold okName at h; exact (Bool.and_eq_true_iff.1 h).2
                rw [hn, Bool.true_and, List.all_map] at hva
                have : (fit D.cons).all (fun p => vU p.2) = false := hva
                rw [this]
                simp)
              have hDF : DB wF P _ _ _ _ _ _ _ _ := HDE.out.chg hcF (fun h => h)
              have c7 := hDF.c7
              have f7 := hDF.fz 7
              have HBAD := Lib.hid (bad_said (CQ := CQ) (w0 := w0) hDF hbwF HPN.out.2.2.2 ⟨et, ex, rfl⟩ HOK.out HW0.out)
              clear hDF hva hr1 hr2 hcF hbF
              go_wp2_with fail
              go_ret
              exact HBAD.out
            | true =>
              obtain rfl := hr1 hva
              have HVA := Lib.hid hva
              clear hva hr1 hr2
              have HDF : Hid (DB wF P _ _ _ _ _ _ _ _) := Lib.hid (HDE.out.chg hcF (fun h => h))
              have hcDF : Chg (fun i => i = g) wD wF := HCE.out.trans hcF (fun i h => h.elim)
              have HQF : Hid (wF.heap[Q]? = some (.cells #[.slice vp D.vars.length vcap, lc] 84 (0, 0))) := Lib.hid (hcDF.obj (HCHD.out.obj HQA.out HPN.out.2.1) (by have := HPg.out; have := HPQ.out; omega))
              have hstF := hcDF.map hstD (by have := HF.out; have := HN9.out; have := HMa.out; omega)
              have hnrF := hcDF.row HNR.out (fun q hq => by injection hq with hq; rw [← hq]; exact HNg.out.1)
              have HLVF := Lib.hid (hcF.row HLV.out (fun q _ h => h))
              have c4 : wF.cell? ⟨P, 4, none⟩ = some (.pointer (some ⟨Q, 0, none⟩)) := by rw [Lib.cell_of_heap HDF.out]; rfl
              have q0 : wF.cell? ⟨Q, 0, none⟩ = some (.slice vp D.vars.length vcap) := by rw [Lib.cell_of_heap HQF.out]; rfl
              obtain ⟨vp2, vcap2, vb, voff, hvv, hvc1, hvc2, hvp, hvcell⟩ := HVV.out _ (Below.refl _ _)
              injection hvv with hv1 _ hv3
              subst hv1 hv3
              have HVC := Lib.hid hvcell
              have hsz0 : Hid (N' < wF.heap.size ∧ M < wF.heap.size) := Lib.hid ⟨(row_from hnrF _ rfl).2, hstF.lt⟩
              clear hbF hcF hstD hvcell hbE
              go_upto_block 6 with fail
              go_cut [17] (fun nv wx => ∃ N2 cap2 DS2, nv = .slice (some ⟨N2, 0, none⟩) (ss.length + D.vars.length) cap2 ∧ wx.ownsRow w.heap.size 9 1 (.slice (some ⟨N2, 0, none⟩) (ss.length + D.vars.length) cap2) (ss.length + D.vars.length) ((D.keys.map bs ++ D.vars.map fun v => 36 :: bs v).map encStr) ∧ wx.ownsMap Tryz.prog 9 unitElem M (ss.length + D.vars.length) DS2 ∧ SetIs DS2 (ss ++ D.vars.map bs) (diffs (ss ++ D.vars.map bs).reverse) ∧ D.vars.all okLbl = true ∧ Chg (fun i => i = N' ∨ i = M) wF wx ∧ (N2 = N' ∨ wF.heap.size ≤ N2))
              case first =>
                --<F
                have HND : Hid (diffs ss.reverse = ss.length) := Lib.hid (by
                  have h1 : ss.Nodup := HPERM.out.nodup_iff.2 (keysB_nodup D.cons)
                  rw [(diffs_eq ss.reverse).2 ((List.reverse_perm ss).nodup_iff.2 h1), List.length_reverse])
                go_wp2_with fail
                go_loopw [17, 131] (fun nv iv wx => ∃ k N2 cap2 DS2, k ≤ D.vars.length ∧ iv = .int .i64 (k : Int) ∧ nv = .slice (some ⟨N2, 0, none⟩) (ss.length + k) cap2 ∧ wx.ownsRow w.heap.size 9 1 (.slice (some ⟨N2, 0, none⟩) (ss.length + k) cap2) (ss.length + k) ((D.keys.map bs ++ (D.vars.take k).map fun v => 36 :: bs v).map encStr) ∧ wx.ownsMap Tryz.prog 9 unitElem M (ss.length + k) DS2 ∧ Hid (SetIs DS2 (ss ++ (D.vars.take k).map bs) (diffs (ss ++ (D.vars.take k).map bs).reverse)) ∧ Hid ((D.vars.take k).all okLbl = true) ∧ Chg (fun i => i = N' ∨ i = M) wF wx ∧ (N2 = N' ∨ wF.heap.size ≤ N2)) (fun _ iv _ => D.vars.length - (intOf iv).toNat)
                case atStart => exact ⟨0, N', cap, DS, Nat.zero_le _, rfl, rfl, by simpa using hnrF, hstF, Lib.hid (by rw [List.take_zero, List.map_nil, List.append_nil, HND.out]; exact HSI.out), Lib.hid rfl, Chg.refl _ _, .inl rfl⟩
                case round =>
                  obtain ⟨k, N2, cap2, DS2, hk, rfl, rfl, hnr3, hst3, HSI3, HAL3, hcx, hN2⟩ := hrel
                  have HN2 := Lib.hid hN2
                  have hbx : Below w.heap.size w wr := hbwF.trans (hcx.below (by intro i hi; have := HNN.out; have := HG5.out; have := HMw.out; have := HR.out; have := hbAs; omega) hbwF.size)
                  by_cases hlt : k < D.vars.length
                  · have hlti : (k : Int) < (D.vars.length : Int) := by omega
                    have hx := List.getElem?_eq_getElem hlt
                    obtain rfl : vp = some ⟨vb, voff, none⟩ := by
                      rcases hvp with h | h
                      · rw [h] at hlt; exact absurd hlt (Nat.not_lt_zero _)
                      · exact h
                    have c1 := HVC.out k _ hx
                    have ck := (hbx.cell (p := ⟨vb, voff + k, none⟩) (World.block_lt_of_cell? w _ c1)).trans c1
                    have hxs := HVS.out _ (List.getElem_mem hlt)
                    have hmem := List.getElem_mem hlt
                    have HTK : Hid (D.vars.take (k + 1) = D.vars.take k ++ [D.vars[k]]) := Lib.hid (List.take_succ_eq_append_getElem hlt)
                    generalize D.vars[k] = x at *
                    generalize D.vars.take k = fv at *
                    clear c1 hx hN2
                    have hxm : x.size ≤ maxLen := by unfold maxLen; omega
                    have HCK := Lib.hid (checkLabel x wr hxm (HUT.out _ hbx))
                    cases hok : okLbl x with
                    | false =>
                      have HOK : Hid (descOk D = false) := Lib.hid (by
                        have h2 : D.vars.all okLbl = false := by rw [List.all_eq_false]; exact ⟨x, hmem, by rw [hok]; simp⟩
                        unfold descOk
                        rw [h2]
                        simp)
                      rw [hok] at HCK
                      clear hok hmem
                      go_wp2_with (go_at_call 64; go_must (refine HCK.out.mono ?_))
                      first | rintro e w5' rfl hb5 | rintro e w5' ⟨rfl, hb5⟩
                      go_wp2_with (go_at_call 60; go_must (refine (errNew _ _).mono ?_))
                      rintro e w6' ⟨⟨er, rfl, her⟩, hb6⟩
                      have hb46 := hb5.trans (hb6.mono hb5.size)
                      have hD5 : DB wr P _ _ _ _ _ _ _ _ := HDF.out.chg hcx (by have := HNN.out; have := HPg.out; have := HN9.out; have := HMa.out; have := HR.out; omega)
                      have hD6 : DB w6' P _ _ _ _ _ _ _ _ := hD5.chg (Chg.of_below hb46 Non) (fun h => h)
                      have c7 := hD6.c7
                      have f7 := hD6.fz 7
                      have HBAD := Lib.hid (bad_said (CQ := CQ) (w0 := w0) hD6 (hbx.trans (hb46.mono hbx.size)) HPN.out.2.2.2 her HOK.out HW0.out)
                      obtain ⟨et, ex, rfl⟩ := her
                      clear hD5 hD6 hb46 hnr3 hst3 hcx
                      go_wp2_with fail
                      go_ret
                      exact HBAD.out
                    | true =>
                      rw [hok] at HCK
                      have HAL4 : Hid ((fv ++ [x]).all okLbl = true) := Lib.hid (by rw [List.all_append, HAL3.out]; simp [hok])
                      have hkey := key_of hxm
                      clear hok hmem
                      go_wp2_with (go_at_call 64; go_must (refine HCK.out.mono ?_))
                      first | rintro e wy rfl hb5 | rintro e wy ⟨rfl, hb5⟩
                      have hcy : Chg Non wr wy := Chg.of_below hb5 Non
                      have hnr4 := hcy.row hnr3 (fun q _ h => h)
                      have hst4 := hcy.map hst3 (fun h => h)
                      have hch4 : Chg (fun i => i = N' ∨ i = M) wF wy := hcx.trans hcy (fun i h => h.elim)
                      have hwy : w.heap.size ≤ wy.heap.size := Nat.le_trans hbx.size hcy.size
                      have h2lt : N2 < wy.heap.size := (row_from hnr4 _ rfl).2
                      have HNLT : Hid (N2 < wy.heap.size ∧ M < wy.heap.size ∧ wF.heap.size ≤ wy.heap.size) := Lib.hid ⟨h2lt, hst4.lt, hch4.size⟩
                      clear hnr3 hst3 hcx hcy hb5 h2lt
                      go_wp2_with (at_builtin; go_must (refine wpList_append_own_at _ rfl _ _ 22 rfl w.heap.size 9 z0 (.string ⟨#[]⟩) 1 16 Tryz.underlying22 hzi hzz hzs hzb rfl (by decide) _ _ _ rfl (hnr4.alloc _) ⟨wy.heap.size, 0, none⟩ 1 1 [.string (⟨#[36]⟩ ++ x)] rfl rfl (cell_one_new _ _ _) (by simp [Value.oneCell']) (by unfold maxLen; omega) (by omega) (by simp; omega) ?_))
                      intro v' wz hown3 hg3 hnil hloc
                      obtain ⟨N3, cap3, rfl⟩ := row_shape hown3 (Nat.succ_pos _)
                      have hloc2 : N3 = N2 ∨ N3 = wy.heap.size + 1 := by
                        rcases hloc with h | h
                        · exact .inl (by injection h)
                        · exact .inr (by injection h)
                      have hall : wy.grownBy wz (some N2) := (World.grownBy_alloc wy _ _).trans hg3
                      have HNM : Hid (M ≠ N2 ∧ M ≠ N3 ∧ (N3 = N' ∨ wF.heap.size ≤ N3)) := Lib.hid (by have := HN2.out; have := HNLT.out; have := HNN.out; have := hsz0.out; omega)
                      have hst5 := hst4.kept hall (by intro e; injection e with e; exact HNM.out.1 e)
                      have hch5 : Chg (fun i => i = N' ∨ i = M) wF wz := hch4.grown hall (fun q h => by cases h; exact HN2.out.imp .inl id)
                      have HRW : Hid ((D.keys.map bs ++ fv.map fun v => 36 :: bs v).map encStr ++ [.string (⟨#[36]⟩ ++ x)] = (D.keys.map bs ++ (fv ++ [x]).map fun v => 36 :: bs v).map encStr) := Lib.hid (by
                        have e : encStr (36 :: bs x) = .string (⟨#[36]⟩ ++ x) := by
                          unfold encStr bs
                          congr 1
                          first
                            | done
                            | (apply ByteArray.ext; simp)
                        simp [e])
                      have hwz : w.heap.size ≤ wz.heap.size := Nat.le_trans hwy hall.size
                      have HOW : Hid (wz.ownsRow w.heap.size 9 1 (.slice (some ⟨N3, 0, none⟩) (ss.length + k + 1) cap3) (ss.length + k + 1) ((D.keys.map bs ++ (fv ++ [x]).map fun v => 36 :: bs v).map encStr)) := Lib.hid (by rw [← HRW.out]; simpa using hown3)
                      clear hst4 hch4 hnr4 hg3 hloc hall hnil hloc2 hown3
                      go_wp2_with (at_mapUpdate; go_must (refine wpList_mapUpdate_own _ rfl _ _ _ 114 rfl 9 88 lawS Tryz.underlying114 unitElem M (ss.length + k) DS2 rfl hst5 (by unfold maxLen; omega) _ _ (keyL x) rfl rfl hkey (.agg []) [] unitElem_mk ?_))
                      intro wv hown4 hg4
                      have hrow4 := HOW.out.kept hg4 (.inr (by intro e; injection e with e; exact HNM.out.2.1 e.symm))
                      have hch6 : Chg (fun i => i = N' ∨ i = M) wF wv := hch5.grown hg4 (fun q h => by cases h; exact .inl (.inr rfl))
                      have HS4 : Hid (SetIs (DS2.put (keyL x) (.agg [])) (ss ++ (fv ++ [x]).map bs) (diffs (ss ++ (fv ++ [x]).map bs).reverse)) := Lib.hid (by
                        have h := HSI3.out.put (bs x) (.agg [])
                        have e1 : ss ++ (fv ++ [x]).map bs = (ss ++ fv.map bs) ++ [bs x] := by simp
                        rw [e1, List.reverse_append]
                        show SetIs _ _ (diffs (ss ++ fv.map bs).reverse + if bs x ∈ (ss ++ fv.map bs).reverse then 0 else 1)
                        by_cases hm : bs x ∈ ss ++ fv.map bs
                        · rw [if_pos hm] at h
                          rw [if_pos (List.mem_reverse.2 hm)]
                          exact h
                        · rw [if_neg hm] at h
                          rw [if_neg (fun h => hm (List.mem_reverse.1 h))]
                          exact h)
                      clear hst5 hch5 hg4
                      go_wp2_with fail
                      go_roundw
                      case rel => exact ⟨k + 1, N3, cap3, DS2.put (keyL x) (.agg []), by omega, by go_num, rfl, by rw [HTK.out]; exact hrow4, hown4, by rw [HTK.out]; exact HS4, by rw [HTK.out]; exact HAL4, hch6, HNM.out.2.2⟩
                      case measure => simp [intOf]; omega
                  · have hkl : k = D.vars.length := by omega
                    have hlti : ¬ (k : Int) < (D.vars.length : Int) := by omega
                    subst hkl
                    rw [List.take_length] at *
                    go_wp2_with fail
                    go_meet
                    case rel => exact ⟨N2, cap2, DS2, rfl, hnr3, hst3, HSI3.out, HAL3.out, hcx, HN2.out⟩
                --F>
              case rest =>
                obtain ⟨N2, cap2, DS2, rfl, hnr, hst, hsi, hav, hch, hN2⟩ := hcut
                generalize wc = wG at *
                have HNQ : Hid ((ss ++ D.vars.map bs).Nodup ↔ (D.keys ++ D.vars).Nodup) := Lib.hid (by
                  rw [(HPERM.out.append_right _).nodup_iff, ← List.map_append]
                  unfold List.Nodup
                  rw [List.pairwise_map]
                  exact ⟨fun h => h.imp fun hn e => hn (by rw [e]), fun h => h.imp fun hn e => hn (bs_inj e)⟩)
                have hrl : (ss ++ D.vars.map bs).reverse.length = ss.length + D.vars.length := by simp; omega
                have HRN : Hid ((ss ++ D.vars.map bs).reverse.Nodup ↔ (ss ++ D.vars.map bs).Nodup) := Lib.hid ((List.reverse_perm _).nodup_iff)
                have hdl := diffs_le (ss ++ D.vars.map bs).reverse
                have hde := diffs_eq (ss ++ D.vars.map bs).reverse
                have hln := hst.len Tryz.underlying114 3
                rw [hsi.2.2] at hln
                rw [hrl] at hdl hde
                have HDEQ := Lib.hid hde
                have HAV := Lib.hid hav
                generalize diffs (ss ++ D.vars.map bs).reverse = nd at *
                have hbG : Below w.heap.size w wG := hbwF.trans (hch.below (by intro i hi; have := HNN.out; have := HG5.out; have := HMw.out; have := HR.out; have := hbAs; omega) hbwF.size)
                have HDG : Hid (DB wG P _ _ _ _ _ _ _ _) := Lib.hid (HDF.out.chg hch (by have := HNN.out; have := HPg.out; have := HN9.out; have := HMa.out; have := HR.out; omega))
                clear hde hav hsi hrl
                by_cases hnd : nd = ss.length + D.vars.length
                · have hne : (((ss.length + D.vars.length : Nat) : Int) != (nd : Int)) = false := by simp; omega
                  have hne2 : (((ss.length : Int) + (D.vars.length : Int)) != (nd : Int)) = false := by simp; omega
                  have HUQ : Hid ((D.keys ++ D.vars).Nodup) := Lib.hid (HNQ.out.1 (HRN.out.1 (HDEQ.out.1 hnd)))
                  clear hnd
                  generalize hvals : D.name :: (fit D.cons).map (·.2) = vals at *
                  have HVALS := Lib.hid hvals
                  have HVL2 : Hid (vals.length = ss.length + 1) := Lib.hid (by rw [← hvals]; have := HFL.out; simp; omega)
                  have HVZ : Hid (∀ x ∈ vals, x.size ≤ 4194304) := Lib.hid (by
                    intro x hx
                    rw [← hvals] at hx
                    rcases List.mem_cons.1 hx with rfl | hx
                    · exact HNZ.out.1
                    · obtain ⟨y, hy, rfl⟩ := List.mem_map.1 hx
                      exact (HCZ.out y (fit_look_mem hy)).2)
                  clear hvals
                  have HRVG : Hid (∀ z, Below wG.heap.size wG z → z.ownsRow w.heap.size 9 1 (.slice (some ⟨G, 0, none⟩) (ss.length + 1) cap') (ss.length + 1) (vals.map .string)) := Lib.hid (fun z hz => (Chg.of_below hz Non).row (hch.row HLVF.out (by intro q e; injection e with e; subst e; have := HGE.out; exact fun h => h.elim this.1 this.2.1)) (fun q _ h => h))
                  have HSPG : Hid (∀ z, Below wG.heap.size wG z → Sep z) := Lib.hid (fun z hz => HSP.out z (hbG.trans (hz.mono hbG.size)))
                  have HGA : Hid (BR wG.heap.size (wG.alloc (.cells #[] 5)) (.slice (some ⟨wG.heap.size, 0, none⟩) 0 0) []) := Lib.hid (BR.new wG)
                  have hbGa : Below wG.heap.size wG (wG.alloc (.cells #[] 5)) := (Below.refl _ wG).alloc (Nat.le_refl _) _
                  have HHCH := Lib.hid hch
                  have HNRG := Lib.hid hnr
                  have HBG := Lib.hid hbG
                  have HN2G := Lib.hid hN2
                  clear hnr hst hch hN2 hbG
                  go_upto_block 8 with fail
                  generalize (wG.alloc (.cells #[] 5)) = wGa at *
                  go_cut [25] (fun bv wx => Below wG.heap.size wG wx ∧ BR wG.heap.size wx bv (sepT (vals.map bs)))
                  case first =>
                    --<G
                    go_wp2_with fail
                    go_loopw [25, 165] (fun bv iv wx => ∃ k : Nat, k ≤ ss.length + 1 ∧ iv = .int .i64 (k : Int) ∧ Below wG.heap.size wG wx ∧ BR wG.heap.size wx bv (sepT ((vals.take k).map bs))) (fun _ iv _ => ss.length + 1 - (intOf iv).toNat)
                    case atStart => exact ⟨0, Nat.zero_le _, rfl, hbGa, HGA.out⟩
                    case round =>
                      obtain ⟨k, hk, rfl, hbr, hbb⟩ := hrel
                      by_cases hlt : k < ss.length + 1
                      · have hlti : (k : Int) < (ss.length : Int) + 1 := by omega
                        have hkv : k < vals.length := by have := HVL2.out; omega
                        have ck : wr.cell? ⟨G, k, none⟩ = some (.string vals[k]) := (row_at (HRVG.out wr hbr)).2.2.2.2 k _ (by rw [List.getElem?_map, List.getElem?_eq_getElem hkv]; rfl)
                        have hxs := HVZ.out vals[k] (List.getElem_mem hkv)
                        have HTK : Hid (sepT ((vals.take (k + 1)).map bs) = sepT ((vals.take k).map bs) ++ bs vals[k] ++ [255]) := Lib.hid (by rw [List.take_succ_eq_append_getElem hkv, List.map_append]; exact sepT_snoc _ _)
                        have hll : (sepT ((vals.take k).map bs)).length ≤ 4194305 * 4194305 := by
                          refine Nat.le_trans (sepT_len (n := 4194304) _ ?_) (Nat.mul_le_mul ?_ (Nat.le_refl _))
                          · intro y hy
                            obtain ⟨z, hz, rfl⟩ := List.mem_map.1 hy
                            rw [bs_length]
                            exact HVZ.out z (List.mem_of_mem_take hz)
                          · rw [List.length_map, List.length_take]; omega
                        generalize vals[k] = x at *
                        generalize sepT ((vals.take k).map bs) = l at *
                        have hwr := hbr.size
                        go_wp2_with (at_builtin; go_must (refine br_str rfl _ _ rfl rfl rfl hbb (by omega) hwr ?_))
                        intro v2 w2 hb2 hl2
                        have hbr2 := hbr.trans (hl2.mono (Nat.le_refl _))
                        obtain ⟨sb, so, sc, hg2, hsb⟩ := HSPG.out _ hbr2
                        have hwr2 := hbr2.size
                        clear hbb hl2 ck hwr
                        go_wp2_with (at_builtin; go_must (refine br_sep rfl _ _ rfl rfl rfl hsb hb2 (by rw [List.length_append, bs_length]; omega) hwr2 ?_))
                        intro v3 w3' hb3 hl3
                        have hbr3 := hbr2.trans (hl3.mono (Nat.le_refl _))
                        clear hb2 hl3 hg2 hsb hbr2 hbr hwr2
                        go_wp2_with fail
                        go_roundw
                        case rel => exact ⟨k + 1, by omega, by go_num, hbr3, by rw [HTK.out, List.append_assoc]; exact hb3⟩
                        case measure => simp [intOf]; omega
                      · have hkk : k = ss.length + 1 := by omega
                        have hlti : ¬ (k : Int) < (ss.length : Int) + 1 := by omega
                        have HTE : Hid (vals.take k = vals) := Lib.hid (List.take_of_length_le (by have := HVL2.out; omega))
                        go_wp2_with fail
                        go_meet
                        case rel => exact ⟨hbr, by rw [HTE.out] at hbb; exact hbb⟩
                    --G>
                  case rest =>
                    obtain ⟨hb5, hbb5⟩ := hcut
                    generalize wc = wI at *
                    have hID : sepT (vals.map bs) = idT D := by rw [← HVALS.out, List.map_cons, List.map_map]; rfl
                    rw [hID] at hbb5
                    have hconv := hbb5.conv
                    have hD5 := HDG.out.chg (Chg.of_below hb5 Non) (fun h => h)
                    have c5 : wI.cell? ⟨P, 5, none⟩ = some (.string ⟨#[]⟩) := by rw [Lib.cell_of_heap hD5]; rfl
                    have f5 := hD5.fz 5
                    have HIDT : Hid (IDT' D = idT D) := Lib.hid rfl
                    change (convert 96 9 _).run Tryz.prog wI = .ok (.string ⟨(IDT' D).toArray⟩) wI at hconv
                    generalize IDT' D = IDT at *
                    have hPG : P < wG.heap.size := (Array.getElem?_eq_some_iff.1 HDG.out).1
                    have hPN : P ≠ N2 := by have := (Array.getElem?_eq_some_iff.1 HDF.out).1; have := HN2G.out; have := HNN.out; have := HPg.out; have := HN9.out; have := HMa.out; have := HR.out; omega
                    have hD6 := hD5.set5 (.string ⟨IDT.toArray⟩)
                    have hcJ : Chg (fun i => i = P ∨ i = N2) wG (wI.setCell ⟨P, 5, none⟩ (.string ⟨IDT.toArray⟩)) := (Chg.of_below hb5 _).setCell (p := ⟨P, 5, none⟩) (.inl (.inl rfl)) _
                    have hnrJ : (wI.setCell ⟨P, 5, none⟩ (.string ⟨IDT.toArray⟩)).ownsRow w.heap.size 9 1 (.slice (some ⟨N2, 0, none⟩) (ss.length + D.vars.length) cap2) (ss.length + D.vars.length) _ := ((Chg.of_below hb5 (fun i => i = P)).setCell (p := ⟨P, 5, none⟩) (.inl rfl) _).row HNRG.out (fun q hq => by injection hq with hq; rw [← hq]; exact fun e => hPN e.symm)
                    have HNAME : Hid (nameL D = (D.keys.map bs ++ D.vars.map fun v => 36 :: bs v).mergeSort leB) := Lib.hid rfl
                    have HNMZ : Hid (∀ x ∈ (D.keys.map bs ++ D.vars.map fun v => 36 :: bs v), x.length ≤ 4194305) := Lib.hid (by
                      intro x hx
                      rcases List.mem_append.1 hx with hx | hx
                      · obtain ⟨y, hy, rfl⟩ := List.mem_map.1 hx
                        obtain ⟨z, hz, rfl⟩ := List.mem_map.1 hy
                        rw [bs_length]
                        exact Nat.le_succ_of_le (HCZ.out z (fit_look_mem hz)).1
                      · obtain ⟨y, hy, rfl⟩ := List.mem_map.1 hx
                        have := HVS.out y hy
                        rw [List.length_cons, bs_length]
                        omega)
                    generalize (D.keys.map bs ++ D.vars.map fun v => 36 :: bs v) = nm at *
                    have HNML : Hid (nm.length = ss.length + D.vars.length) := Lib.hid (by have := (row_at HNRG.out).2.2.2.1; rwa [List.length_map] at this)
                    have hfl := (fit_len D.cons)
                    have hssl : ss.length ≤ 4194304 := by have := HFL.out; omega
                    go_upto_region 52 with fail
                    clear c5 f5 hconv hb5 hbb5 hD5
                    generalize (wI.setCell ⟨P, 5, none⟩ (.string ⟨IDT.toArray⟩)) = wJ at *
                    have hsort := sortK nm wJ (by rw [HNML.out]; exact hnrJ) (by rw [HNML.out]; omega)
                    rw [HNML.out] at hsort
                    have HSORT := Lib.hid hsort
                    clear hsort hnrJ
                    go_wp2_with (go_at_call 65; go_must (refine HSORT.out.mono ?_))
                    rintro e wK ⟨rfl, hnrK, hcs⟩
                    have hD7 := hD6.chg hcs hPN
                    have hcK : Chg (fun i => i = P ∨ i = N2) wG wK := hcJ.trans hcs (fun i h => .inl (.inr h))
                    have hbK : Below w.heap.size w wK := HBG.out.trans (hcK.below (fun i hi => hi.elim (fun h => by rw [h]; exact Nat.le_of_eq HPQ.out.2.symm) (fun h => by rw [h]; exact (row_from HNRG.out _ rfl).1)) HBG.out.size)
                    have HNMZ2 : Hid (∀ x ∈ nm.mergeSort leB, x.length ≤ 4194305) := Lib.hid (fun x hx => HNMZ.out x (List.mem_mergeSort.1 hx))
                    have HSNL : Hid ((nm.mergeSort leB).length = ss.length + D.vars.length) := Lib.hid (by rw [List.length_mergeSort, HNML.out])
                    generalize nm.mergeSort leB = sn at *
                    have HD7 := Lib.hid hD7
                    have HBK := Lib.hid hbK
                    have HNRK : Hid (∀ z, Below wK.heap.size wK z → z.ownsRow w.heap.size 9 1 (.slice (some ⟨N2, 0, none⟩) (ss.length + D.vars.length) cap2) (ss.length + D.vars.length) (sn.map encStr)) := Lib.hid (fun z hz => (Chg.of_below hz Non).row hnrK (fun q _ h => h))
                    have HSPK : Hid (∀ z, Below wK.heap.size wK z → Sep z) := Lib.hid (fun z hz => HSP.out z (hbK.trans (hz.mono hbK.size)))
                    have HDK : Hid (∀ z, Below wK.heap.size wK z → DB z P _ _ _ _ _ _ _ _) := Lib.hid (fun z hz => hD7.chg (Chg.of_below hz Non) (fun h => h))
                    have HK0 := Lib.hid (BR.new wK)
                    have HKA : Hid (Below wK.heap.size wK (wK.alloc (.cells #[] 5))) := Lib.hid ((Below.refl _ wK).alloc (Nat.le_refl _) _)
                    have HZH := Lib.hid HNZ.out.2
                    have hz2 := HNZ.out.2.1
                    have hz3 := HNZ.out.2.2
                    clear hnrK hcs hD7 hcK hbK hcJ hD6
                    go_wp2_with (at_builtin; go_must (refine br_str rfl _ _ rfl rfl rfl HK0.out (by simp only [List.length_nil]; omega) HKA.out.size ?_))
                    intro v1 x1 hr1 hl1
                    have hk1 := HKA.out.trans hl1
                    obtain ⟨l1, HL1, hr1, hz1⟩ : ∃ l1 : List UInt8, Hid (l1 = bs D.help) ∧ BR wK.heap.size x1 v1 l1 ∧ l1.length ≤ 4194304 := ⟨_, Lib.hid rfl, by simpa using hr1, by rw [bs_length]; omega⟩
                    obtain ⟨sb1, so1, sc1, hg1, hsb1⟩ := HSPK.out _ hk1
                    clear hl1
                    go_wp2_with (at_builtin; go_must (refine br_sep rfl _ _ rfl rfl rfl hsb1 hr1 (by omega) hk1.size ?_))
                    intro v2 x2 hr2 hl2
                    have hk2 := hk1.trans hl2
                    have cu : x2.cell? ⟨P, 2, none⟩ = some (.string D.unit) := by rw [Lib.cell_of_heap (HDK.out _ hk2)]; rfl
                    clear hl2 hr1 hk1 hg1 hsb1
                    go_wp2_with (at_builtin; go_must (refine br_str rfl _ _ rfl rfl rfl hr2 (by simp; omega) hk2.size ?_))
                    intro v3 x3 hr3 hl3
                    have hk3 := hk2.trans hl3
                    obtain ⟨l3, HL3, hr3, hz3⟩ : ∃ l3 : List UInt8, Hid (l3 = l1 ++ [255] ++ bs D.unit) ∧ BR wK.heap.size x3 v3 l3 ∧ l3.length ≤ 8388609 := ⟨_, Lib.hid rfl, by simpa using hr3, by simp [bs_length]; omega⟩
                    obtain ⟨sb3, so3, sc3, hg3, hsb3⟩ := HSPK.out _ hk3
                    clear hl3 hr2 hk2 cu
                    go_wp2_with (at_builtin; go_must (refine br_sep rfl _ _ rfl rfl rfl hsb3 hr3 (by omega) hk3.size ?_))
                    intro v4 x4 hr4 hl4
                    have hk4 := hk3.trans hl4
                    clear hl4 hr3 hk3 hg3 hsb3
                    obtain ⟨l4, HL4, hr4, hz4⟩ : ∃ l4 : List UInt8, Hid (l4 = bs D.help ++ [255] ++ bs D.unit ++ [255]) ∧ BR wK.heap.size x4 v4 l4 ∧ l4.length ≤ 8388610 := ⟨l3 ++ [255], Lib.hid (by rw [HL3.out, HL1.out]), by simpa using hr4, by simp; omega⟩
                    have HK4 := Lib.hid hk4
                    have HR4 := Lib.hid hr4
                    clear hk4
                    go_upto_block 10 with fail
                    go_cut [25] (fun bv wx => Below wK.heap.size wK wx ∧ BR wK.heap.size wx bv (l4 ++ sepT sn))
                    case first =>
                      --<H
                      go_wp2_with fail
                      go_loopw [25, 200] (fun bv iv wx => ∃ k : Nat, k ≤ ss.length + D.vars.length ∧ iv = .int .i64 (k : Int) ∧ Below wK.heap.size wK wx ∧ BR wK.heap.size wx bv (l4 ++ sepT (sn.take k))) (fun _ iv _ => ss.length + D.vars.length - (intOf iv).toNat)
                      case atStart => exact ⟨0, Nat.zero_le _, rfl, HK4.out, by simpa [sepT] using HR4.out⟩
                      case round =>
                        obtain ⟨k, hk, rfl, hbr, hbb⟩ := hrel
                        by_cases hlt : k < ss.length + D.vars.length
                        · have hlti : (k : Int) < (ss.length : Int) + (D.vars.length : Int) := by omega
                          have hkv : k < sn.length := by have := HSNL.out; omega
                          have ck : wr.cell? ⟨N2, k, none⟩ = some (encStr sn[k]) := (row_at (HNRK.out wr hbr)).2.2.2.2 k _ (by rw [List.getElem?_map, List.getElem?_eq_getElem hkv]; rfl)
                          have hxs := HNMZ2.out sn[k] (List.getElem_mem hkv)
                          have HTK : Hid (sepT (sn.take (k + 1)) = sepT (sn.take k) ++ sn[k] ++ [255]) := Lib.hid (by rw [List.take_succ_eq_append_getElem hkv]; exact sepT_snoc _ _)
                          have hll : (sepT (sn.take k)).length ≤ 8388608 * 4194306 := by
                            refine Nat.le_trans (sepT_len (n := 4194305) _ ?_) (Nat.mul_le_mul ?_ (Nat.le_refl _))
                            · intro y hy
                              exact HNMZ2.out y (List.mem_of_mem_take hy)
                            · rw [List.length_take]; omega
                          obtain ⟨x, hx1, HX2⟩ : ∃ x : ByteArray, encStr sn[k] = .string x ∧ Hid (bs x = sn[k]) := ⟨⟨sn[k].toArray⟩, rfl, Lib.hid (bs_of _)⟩
                          have hxz : x.size ≤ 4194305 := by rw [← bs_length, HX2.out]; exact hxs
                          rw [hx1] at ck
                          rw [← HX2.out] at HTK
                          clear hx1 HX2 hxs
                          generalize sepT (sn.take k) = l at *
                          have hwr := hbr.size
                          go_wp2_with (at_builtin; go_must (refine br_str rfl _ _ rfl rfl rfl hbb (by rw [List.length_append]; omega) hwr ?_))
                          intro v2 w2 hb2 hl2
                          have hbr2 := hbr.trans (hl2.mono (Nat.le_refl _))
                          obtain ⟨sb, so, sc, hg2, hsb⟩ := HSPK.out _ hbr2
                          have hwr2 := hbr2.size
                          clear hbb hl2 ck hwr
                          go_wp2_with (at_builtin; go_must (refine br_sep rfl _ _ rfl rfl rfl hsb hb2 (by rw [List.length_append, List.length_append, bs_length]; omega) hwr2 ?_))
                          intro v3 w3' hb3 hl3
                          have hbr3 := hbr2.trans (hl3.mono (Nat.le_refl _))
                          clear hb2 hl3 hg2 hsb hbr2 hbr hwr2
                          go_wp2_with fail
                          go_roundw
                          case rel => exact ⟨k + 1, by omega, by go_num, hbr3, by rw [HTK.out]; simpa using hb3⟩
                          case measure => simp [intOf]; omega
                        · have hkk : k = ss.length + D.vars.length := by omega
                          have hlti : ¬ (k : Int) < (ss.length : Int) + (D.vars.length : Int) := by omega
                          have HTE : Hid (sn.take k = sn) := Lib.hid (List.take_of_length_le (by have := HSNL.out; omega))
                          go_wp2_with fail
                          go_meet
                          case rel => exact ⟨hbr, by rw [HTE.out] at hbb; exact hbb⟩
                      --H>
                    case rest =>
                      obtain ⟨hb6, hbb6⟩ := hcut
                      generalize wc = wL at *
                      have hDM : l4 ++ sepT sn = IDM' D := by rw [HL4.out]; unfold IDM' dimT; rw [HNAME.out]; unfold sepT; simp
                      rw [hDM] at hbb6
                      have hconv := hbb6.conv
                      have HIDM : Hid (IDM' D = dimT D) := Lib.hid rfl
                      generalize IDM' D = IDM at *
                      have hD8 := HDK.out _ hb6
                      have c6 : wL.cell? ⟨P, 6, none⟩ = some (.string ⟨#[]⟩) := by rw [Lib.cell_of_heap hD8]; rfl
                      have f6 := hD8.fz 6
                      have hD9 := hD8.set6 (.string ⟨IDM.toArray⟩)
                      have hcM : Chg (fun i => i = P) wK (wL.setCell ⟨P, 6, none⟩ (.string ⟨IDM.toArray⟩)) := (Chg.of_below hb6 (fun i => i = P)).setCell (p := ⟨P, 6, none⟩) (.inl rfl) _
                      have hbM : Below w.heap.size w (wL.setCell ⟨P, 6, none⟩ (.string ⟨IDM.toArray⟩)) := HBK.out.trans (hcM.below (fun i hi => by rw [hi]; exact Nat.le_of_eq HPQ.out.2.symm) HBK.out.size)
                      go_upto_region 64 with fail
                      clear hconv c6 f6 hD8 hb6 hbb6 hDM
                      generalize (wL.setCell ⟨P, 6, none⟩ (.string ⟨IDM.toArray⟩)) = wM at *
                      have hlnM := HLN.out wM hbM
                      obtain ⟨zp, hpi, hpz, hps, hpb⟩ := info_parts info_ptr
                      have hgM : w.heap.size ≤ wM.heap.size := hbM.size
                      have HBM := Lib.hid hbM
                      have HD9 := Lib.hid hD9
                      clear hcM hbM hD9
                      go_wp2_with (at_make; go_must (refine wpList_make_own _ rfl _ _ 63 rfl w.heap.size 86 zp (.pointer none) 1 Tryz.underlying63 hpi hpz hps .i64 .i64 _ mn rfl rfl rfl (by rw [hpb]; omega) (by unfold maxLen; omega) hgM ?_))
                      intro wN hrowN hgN
                      have hcN : Chg Non wM wN := (Chg.refl _ _).grown hgN (fun q h => by cases h)
                      have hDN := HD9.out.chg hcN (fun h => h)
                      have c3 : wN.cell? ⟨P, 3, none⟩ = some (.slice none 0 0) := by rw [Lib.cell_of_heap hDN]; rfl
                      have f3 := hDN.fz 3
                      have HPL : Hid (P < wM.heap.size) := Lib.hid (Array.getElem?_eq_some_iff.1 HD9.out).1
                      have hDO := hDN.set3 (.slice (some ⟨wM.heap.size, 0, none⟩) 0 mn)
                      have hcO : Chg (fun i => i = P) wM (wN.setCell ⟨P, 3, none⟩ (.slice (some ⟨wM.heap.size, 0, none⟩) 0 mn)) := (hcN.mono (T := fun i => i = P) (fun i h => h.elim)).setCell (p := ⟨P, 3, none⟩) (.inl rfl) _
                      have hrowO : (wN.setCell ⟨P, 3, none⟩ (.slice (some ⟨wM.heap.size, 0, none⟩) 0 mn)).ownsRow w.heap.size 86 1 (.slice (some ⟨wM.heap.size, 0, none⟩) 0 mn) 0 [] := ((Chg.refl (fun i => i = P) wN).setCell (p := ⟨P, 3, none⟩) (.inl rfl) _).row hrowN (fun q hq (e : q = P) => absurd (Option.some.inj (show some wM.heap.size = some q from hq)) (by have := HPL.out; omega))
                      clear hrowN hgN hcN hDN hlnM
                      go_upto_region 65 with fail
                      clear c3 f3
                      generalize (wN.setCell ⟨P, 3, none⟩ (.slice (some ⟨wM.heap.size, 0, none⟩) 0 mn)) = wO at *
                      have hbO : Below w.heap.size w wO := HBM.out.trans (hcO.below (fun i hi => by rw [hi]; exact Nat.le_of_eq HPQ.out.2.symm) HBM.out.size)
                      have hMO := HMM.out _ hbO
                      have hL0 : w.heap.size ≤ wM.heap.size ∧ wM.heap.size < wO.heap.size := row_from hrowO _ rfl
                      have HLM := Lib.hid hL0
                      have HBO := Lib.hid hbO
                      have HPO : Hid (P < wO.heap.size) := Lib.hid (Array.getElem?_eq_some_iff.1 hDO).1
                      clear hL0 HPL hcO
                      generalize wM.heap.size = L0 at *
                      go_upto_block 12 with (at_range; go_must (refine range_lab D.cons mp rfl _ rfl rfl hMO ?_); intro wQ hrg hgQ hsQ)
                      go_frame
                      have hcQ : Chg Non wO wQ := (Chg.refl _ _).grown hgQ (fun q h => by cases h)
                      have hDQ := hDO.chg hcQ (fun h => h)
                      have hrowQ := hcQ.row hrowO (fun q _ h => h)
                      have HCQ0 := Lib.hid hcQ
                      have HKQ : Hid (Collected (mD D.cons) (Maps.has (mD D.cons)) []) := Lib.hid (Collected.start _)
                      rw [HMN.out] at hrg
                      clear hgQ hsQ hcQ hMO hDO hrowO hbO
                      generalize hr2 : wO.heap.size = r2 at hrg ⊢
                      have HR2 := Lib.hid hr2
                      clear hr2
                      go_cut [] (fun wx => ∃ (left : Lit → Bool) (cap L : Nat) (zs : List (Nat × Ent)), Hid (∀ kl, left kl = false) ∧ zs.length ≤ mn ∧ DB wx P (.string D.name) (.string D.help) (.string D.unit) (.slice (some ⟨L, 0, none⟩) zs.length cap) (.pointer (some ⟨Q, 0, none⟩)) (.string ⟨IDT.toArray⟩) (.string ⟨IDM.toArray⟩) .nilIface ∧ wx.ownsRow w.heap.size 86 1 (.slice (some ⟨L, 0, none⟩) zs.length cap) zs.length (zs.map fun z => .pointer (some ⟨z.1, 0, none⟩)) ∧ Hid (∀ z ∈ zs, PairAt wx (.pointer (some ⟨z.1, 0, none⟩)) z.2) ∧ Hid (Collected (mD D.cons) left (zs.map fun z => bs z.2.1)) ∧ Hid (∀ z ∈ zs, look z.2.1 (fit D.cons) = some z.2.2) ∧ Chg (fun i => i = P ∨ i = L0) wO wx)
                      case first =>
                        --<J
                        go_wp2_with fail
                        go_loopw [] (fun wx => ∃ (left : Lit → Bool) (cnt cap L : Nat) (zs : List (Nat × Ent)), Rng wx mp r2 D.cons left cnt ∧ zs.length + cnt ≤ mn ∧ DB wx P (.string D.name) (.string D.help) (.string D.unit) (.slice (some ⟨L, 0, none⟩) zs.length cap) (.pointer (some ⟨Q, 0, none⟩)) (.string ⟨IDT.toArray⟩) (.string ⟨IDM.toArray⟩) .nilIface ∧ wx.ownsRow w.heap.size 86 1 (.slice (some ⟨L, 0, none⟩) zs.length cap) zs.length (zs.map fun z => .pointer (some ⟨z.1, 0, none⟩)) ∧ Hid (∀ z ∈ zs, PairAt wx (.pointer (some ⟨z.1, 0, none⟩)) z.2) ∧ Hid (Collected (mD D.cons) left (zs.map fun z => bs z.2.1)) ∧ Hid (∀ z ∈ zs, look z.2.1 (fit D.cons) = some z.2.2) ∧ Chg (fun i => i = P ∨ i = L0) wO wx ∧ Hid (L = L0 ∨ wO.heap.size ≤ L)) (fun wx => rleft wx mp r2)
                        case atStart => exact ⟨_, _, mn, L0, [], hrg, by simp, hDQ, hrowQ, Lib.hid (by simp), HKQ.out, Lib.hid (by simp), HCQ0.out.mono (fun i h => h.elim), Lib.hid (.inl rfl)⟩
                        case round =>
                          obtain ⟨left, cnt, cap9, L, zs, hrgx, hcnt, hD, hrow, HPA, HCO, HLK, hch, HL⟩ := hrel
                          have HCH9 := Lib.hid hch
                          clear hch hrg hDQ hrowQ HKQ
                          go_wp2_with (at_next; go_must (refine next_rng D.cons wr mp r2 cnt left rfl _ rfl rfl hrgx ?_ ?_))
                          · intro hl0
                            have hlf : Hid (∀ kl, left kl = false) := Lib.hid hl0
                            clear hl0
                            go_wp2_with fail
                            go_meet
                            case rel => exact ⟨left, cap9, L, zs, hlf, by omega, hD, hrow, HPA, HCO, HLK, HCH9.out⟩
                          · intro x t wy hN
                            have hen := hN.entry
                            have HRL := Lib.hid hrgx.left_eq
                            obtain ⟨cnt', hrg1, hlt⟩ := hN.rng
                            have HNI : Hid (bs x ∉ zs.map fun z => bs z.2.1) := Lib.hid (fun h => by have h2 := ((HCO.out.2 (bs x)).1 h).2; rw [show (.string (bs x) : Lit) = keyL x from rfl, hN.here] at h2; cases h2)
                            have HCO2 : Hid (Collected (mD D.cons) (fun z => left z && !z.sameKey (keyL x)) ((zs.map fun z => bs z.2.1) ++ [bs x])) := Lib.hid (HCO.out.step (x := bs x) hN.here hN.at')
                            have HVL := Lib.hid hN.val
                            have hnir := row_ne_rng hrow hrgx
                            have hcY : Chg (fun i => i = r2) wr wy := (Chg.refl (fun i => i = r2) wr).grown hN.grown (fun q hq => by injection hq with hq; exact .inl hq.symm)
                            have hPr : P ≠ r2 := by have := HPO.out; have := HR2.out; omega
                            have hDy := hD.chg hcY hPr
                            have hrowy := hcY.row hrow (fun q hq e => hnir (by rw [← e]; exact hq.symm))
                            have HPAy : Hid (∀ z ∈ zs, PairAt wy (.pointer (some ⟨z.1, 0, none⟩)) z.2) := Lib.hid (fun z hz => (HPA.out z hz).chg hcY (fun b cs T fr hb hc => by subst hb; exact absurd hc (hrgx.no_cells _ _ _)))
                            have HCHY : Hid (Chg (fun i => i = P ∨ i = L0) wO wy) := Lib.hid (HCH9.out.trans hcY (fun i hi => .inr (by rw [hi]; exact Nat.le_of_eq HR2.out)))
                            have HGY : Hid (w.heap.size ≤ wy.heap.size) := Lib.hid (Nat.le_trans HBO.out.size HCHY.out.size)
                            have HRNG := Lib.hid hrg1
                            have c3 : wy.cell? ⟨P, 3, none⟩ = some (.slice (some ⟨L, 0, none⟩) zs.length cap9) := by rw [Lib.cell_of_heap hDy]; rfl
                            have f3 := hDy.fz 3
                            have HLP := Lib.hid (row_ne_desc hrowy hDy)
                            have HDY := Lib.hid hDy
                            have HROWY := Lib.hid hrowy
                            have hzz : zs.length < mn := by omega
                            have hmn4 : mn ≤ 4194304 := hsz5'
                            clear hN hrgx hD hrow hcY hrg1 hrowy hDy hnir HPA HCO
                            go_upto_region 68 with fail
                            have HCN : Hid (∀ y, Chg Non wy y → y.ownsRow w.heap.size 86 1 (.slice (some ⟨L, 0, none⟩) zs.length cap9) zs.length (zs.map fun z => .pointer (some ⟨z.1, 0, none⟩))) := Lib.hid (fun y hy => hy.row HROWY.out (fun q _ h => h))
                            have KEY : Hid (∀ (w8 : World) (g8 cap8 q : Nat), PairAt w8 (.pointer (some ⟨q, 0, none⟩)) (x, t) → w8.ownsRow w.heap.size 86 1 (.slice (some ⟨g8, 0, none⟩) (zs.length + 1) cap8) (zs.length + 1) ((zs.map fun z => .pointer (some ⟨z.1, 0, none⟩)) ++ [.pointer (some ⟨q, 0, none⟩)]) → Chg (fun i => i = L) wy w8 → (g8 = L ∨ wy.heap.size ≤ g8) →
                                (∃ (left : Lit → Bool) (cnt cap L : Nat) (zs' : List (Nat × Ent)), Rng (w8.setCell ⟨P, 3, none⟩ (.slice (some ⟨g8, 0, none⟩) (zs.length + 1) cap8)) mp r2 D.cons left cnt ∧ zs'.length + cnt ≤ mn ∧ DB (w8.setCell ⟨P, 3, none⟩ (.slice (some ⟨g8, 0, none⟩) (zs.length + 1) cap8)) P (.string D.name) (.string D.help) (.string D.unit) (.slice (some ⟨L, 0, none⟩) zs'.length cap) (.pointer (some ⟨Q, 0, none⟩)) (.string ⟨IDT.toArray⟩) (.string ⟨IDM.toArray⟩) .nilIface ∧ ((w8.setCell ⟨P, 3, none⟩ (.slice (some ⟨g8, 0, none⟩) (zs.length + 1) cap8))).ownsRow w.heap.size 86 1 (.slice (some ⟨L, 0, none⟩) zs'.length cap) zs'.length (zs'.map fun z => .pointer (some ⟨z.1, 0, none⟩)) ∧ Hid (∀ z ∈ zs', PairAt (w8.setCell ⟨P, 3, none⟩ (.slice (some ⟨g8, 0, none⟩) (zs.length + 1) cap8)) (.pointer (some ⟨z.1, 0, none⟩)) z.2) ∧ Hid (Collected (mD D.cons) left (zs'.map fun z => bs z.2.1)) ∧ Hid (∀ z ∈ zs', look z.2.1 (fit D.cons) = some z.2.2) ∧ Chg (fun i => i = P ∨ i = L0) wO (w8.setCell ⟨P, 3, none⟩ (.slice (some ⟨g8, 0, none⟩) (zs.length + 1) cap8)) ∧ Hid (L = L0 ∨ wO.heap.size ≤ L)) ∧ rleft (w8.setCell ⟨P, 3, none⟩ (.slice (some ⟨g8, 0, none⟩) (zs.length + 1) cap8)) mp r2 = cnt') := Lib.hid (by
                              intro w8 g8 cap8 q hp8 ho8 hc8 hl8
                              have hD8 := HDY.out.chg hc8 (fun e => HLP.out e.symm)
                              have hc9 : Chg (fun i => i = P) w8 (w8.setCell ⟨P, 3, none⟩ (.slice (some ⟨g8, 0, none⟩) (zs.length + 1) cap8)) := (Chg.refl (fun i => i = P) w8).setCell (p := ⟨P, 3, none⟩) (.inl rfl) _
                              have hgP : g8 ≠ P := row_ne_desc ho8 hD8
                              have hLr : L ≠ r2 := fun e => by
                                obtain ⟨_, _, _, hb, _⟩ := row_form2 HROWY.out
                                exact HRNG.out.no_cells _ _ _ (e ▸ hb)
                              have hrg8 := HRNG.out.kept (x := w8) (row := some L) ⟨hc8.os, hc8.tape, hc8.output, hc8.size, fun k hk hne => hc8.block k hk (fun e => hne (by rw [e]))⟩ (fun b hb e => by injection e with e; have h1 := HMB.out b hb; have h2 := (row_from HROWY.out L rfl).1; omega) (fun e => by injection e with e; exact hLr e.symm)
                              have hrg9 := hrg8.kept (x := (w8.setCell ⟨P, 3, none⟩ (.slice (some ⟨g8, 0, none⟩) (zs.length + 1) cap8))) (row := some P) ⟨hc9.os, hc9.tape, hc9.output, hc9.size, fun k hk hne => hc9.block k hk (fun e => hne (by rw [e]))⟩ (fun b hb e => by injection e with e; have := HMB.out b hb; have := HPQ.out; omega) (fun e => by injection e with e; have := HPO.out; have := HR2.out; omega)
                              have e1 : (zs ++ [(q, (x, t))]).length = zs.length + 1 := by simp
                              have hrow9 := hc9.row ho8 (fun p hp (e : p = P) => hgP ((Option.some.inj (show some g8 = some p from hp)).trans e))
                              refine ⟨⟨_, cnt', cap8, g8, zs ++ [(q, (x, t))], hrg9, by rw [e1]; omega, by rw [e1]; exact hD8.set3 _, by rw [e1, List.map_append]; exact hrow9, Lib.hid ?_, Lib.hid (by rw [List.map_append]; exact HCO2.out), Lib.hid ?_, ?_, Lib.hid ?_⟩, hrg9.left_eq⟩
                              · intro z hz
                                have h8 : PairAt w8 (.pointer (some ⟨z.1, 0, none⟩)) z.2 := by
                                  rcases List.mem_append.1 hz with hz | hz
                                  · exact pairs_stay HROWY.out HDY.out (hc8.mono (fun i hi => .inr hi)) (HPAy.out z hz)
                                  · rw [List.mem_singleton.1 hz]; exact hp8
                                exact pairs_stay ho8 hD8 (hc9.mono (fun i hi => .inl hi)) h8
                              · intro z hz
                                rcases List.mem_append.1 hz with hz | hz
                                · exact HLK.out z hz
                                · rw [List.mem_singleton.1 hz]; exact HVL.out
                              · exact (HCHY.out.trans hc8 (fun i hi => by have h1 := HL.out; have h2 := hi; subst h2; rcases h1 with h | h; exact .inl (.inr h); exact .inr h)).trans hc9 (fun i hi => .inl (.inl hi))
                              · rcases hl8 with h | h
                                · rw [h]; exact HL.out
                                · exact .inr (Nat.le_trans HCHY.out.size h))
                            have hPlt : P < wy.heap.size := (Array.getElem?_eq_some_iff.1 HDY.out).1
                            have hP1 : P < wy.heap.size + 1 := by omega
                            have hP2 : P < wy.heap.size + 1 + 1 := by omega
                            have hP2' : P < wy.heap.size + 2 := by omega
                            have hP3 : P < wy.heap.size + 1 + 1 + 1 := by omega
                            have hP3' : P < wy.heap.size + 3 := by omega
                            --<M
                            go_region_law (first
                              | (refine step_of (by rfl) _ _ (by rfl) _ (by rfl) ?_)
                              | (refine step_append_lies _ (by rfl) _ _ _ (by rfl) w.heap.size 86 zp (.pointer none) 1 8 Tryz.underlying63 hpi hpz hps hpb rfl (by omega) (.slice (some ⟨L, 0, none⟩) zs.length cap9) zs.length (zs.map fun z => .pointer (some ⟨z.1, 0, none⟩)) (by rfl) (HCN.out _ (by repeat (first | exact Chg.refl _ _ | apply Chg.alloc | apply Chg.drew))) ⟨_, 0, none⟩ 1 1 [.pointer (some ⟨_, 0, none⟩)] (by rfl) (by rfl) (World.news_of_block (cs := #[.pointer (some ⟨_, 0, none⟩)]) (t := 86) (fr := (0, 0)) (at_new _ _ _ (by simp))) (by simp [Value.oneCell']) (by omega) (by unfold maxLen; omega) (by omega) (by have := HGY.out; simp; omega) _ rfl ?_; intro g8 cap8 w8 ho8 hg8 hat8 hlt8
                                 have hc8 : Chg (fun i => i = L) wy w8 := Chg.grown (by repeat (first | exact Chg.refl _ _ | apply Chg.alloc | apply Chg.drew)) hg8 (fun q hq => by injection hq with hq; exact .inl hq.symm)
                                 have hp8 := Lib.hid (pairs_stay (HCN.out _ (by repeat (first | exact Chg.refl _ _ | apply Chg.alloc | apply Chg.drew))) (HDY.out.chg (S := Non) (by repeat (first | exact Chg.refl _ _ | apply Chg.alloc | apply Chg.drew)) (fun h => h)) ((Chg.refl (fun i => i = P ∨ i = L) _).grown hg8 (fun q hq => by injection hq with hq; exact .inl (.inr hq.symm))) (by first | exact pairNew1 wy.drew x t _ | exact pairNew2 wy.drew x t _))
                                 have hl8 : Hid (g8 = L ∨ wy.heap.size ≤ g8) := Lib.hid (hat8.elim (fun h => .inl (by injection h with h; exact h.symm)) (fun h => .inr (by rw [h]; first | (simp; done) | (simp; omega))))
                                 have hD8 := HDY.out.chg hc8 (fun e => HLP.out e.symm)
                                 have c8 : w8.cell? ⟨P, 3, none⟩ = some (.slice (some ⟨L, 0, none⟩) zs.length cap9) := by rw [Lib.cell_of_heap hD8]; rfl
                                 have f8 := hD8.fz 3
                                 have hk8 := Lib.hid (KEY.out _ _ _ _ hp8.out ho8 hc8 hl8.out)
                                 clear hD8 hg8 hat8 hlt8 hc8 hp8 hl8 ho8))
                            all_goals clear KEY HCN
                            all_goals go_wp2_with fail
                            all_goals go_roundw
                            all_goals first | exact hk8.out.1 | (rw [hk8.out.2, HRL.out]; exact hlt)
                            --M>
                        --J>
                      case rest =>
                        --<K
                        obtain ⟨left, cap9, L, zs, HLF, hcnt, hD, hrow, HPA, HCO, HLK, hch9⟩ := hcut
                        generalize wc = wr at *
                        have HCH9 := Lib.hid hch9
                        clear hch9
                        have hbr9 : Below w.heap.size w wr := HBO.out.trans (HCH9.out.below (fun i hi => hi.elim (fun h => by rw [h]; exact Nat.le_of_eq HPQ.out.2.symm) (fun h => by rw [h]; exact HLM.out.1)) HBO.out.size)
                        have c3 : wr.cell? ⟨P, 3, none⟩ = some (.slice (some ⟨L, 0, none⟩) zs.length cap9) := by rw [Lib.cell_of_heap hD]; rfl
                        have HS := Lib.hid (sortPairs zs wr HPA.out hrow (by omega))
                        have HL9 := Lib.hid (row_from hrow _ rfl)
                        have HDR := Lib.hid hD
                        have HROW := Lib.hid hrow
                        have HLP := Lib.hid (row_ne_desc hrow hD)
                        have HBR9 := Lib.hid hbr9
                        have HOKT : Hid (descOk D = true) := Lib.hid (by
                          have h1 : (fit D.cons).all (fun p => okLbl p.1) = true := by have := HAK.out; unfold Dsc.keys at this; rwa [List.all_map] at this
                          have h2 : (fit D.cons).all (fun p => vU p.2) = true := by have := HVA.out; rw [← HVALS.out, List.all_cons, List.all_map] at this; exact (Bool.and_eq_true_iff.1 this).2
                          unfold descOk
                          rw [HNT.out, h1, h2, HAV.out, decide_eq_true HUQ.out]
                          rfl)
                        clear hD hrow hbr9
                        go_wp2_with (go_at_call 62; go_must (refine HS.out.mono ?_))
                        rintro e wS ⟨rfl, ps, HPS, hrowS, hcS⟩
                        have hbS : Below w.heap.size w wS := HBR9.out.trans (hcS.below (fun i hi => by rw [hi]; exact HL9.out.1) HBR9.out.size)
                        have hDS := HDR.out.chg hcS (fun e => HLP.out e.symm)
                        have hfit := pairs_fit HCO.out HLF.out HLK.out HPS.out.1 HPS.out.2
                        have hpS : ∀ z ∈ ps, PairAt wS (.pointer (some ⟨z.1, 0, none⟩)) z.2 := fun z hz => pairs_stay HROW.out HDR.out (hcS.mono (fun i hi => .inr hi)) (HPA.out z (HPS.out.1.mem_iff.1 hz))
                        have hgood : Good wS P CQ D := ⟨Q, .slice vp D.vars.length vcap, lc, .slice (some ⟨L, 0, none⟩) zs.length cap9, HCQ.out, by have := hDS; rw [HIDT.out, HIDM.out] at this; exact this, (hbS.block Q HQLT.out).trans HQW.out, HVV.out _ hbS, by rw [← hfit]; exact rdlp_of hrowS hpS⟩
                        have HSAID : Hid (SaidD CQ D w0 wS (.returned (.pointer (some ⟨P, 0, none⟩)))) := Lib.hid ⟨P, rfl, by rw [HPQ.out.2]; exact HW0.out.size, HW0.out.trans (hbS.mono HW0.out.size), fun _ => hgood, fun h => by rw [HOKT.out] at h; cases h⟩
                        clear hbS hDS hfit hpS hgood hrowS hcS
                        go_wp2_with fail
                        go_ret
                        exact HSAID.out
                        --K>
                · have hne : (((ss.length + D.vars.length : Nat) : Int) != (nd : Int)) = true := by simp; omega
                  have hne2 : (((ss.length : Int) + (D.vars.length : Int)) != (nd : Int)) = true := by simp; omega
                  have HOK : Hid (descOk D = false) := Lib.hid (by
                    have h2 : ¬ (D.keys ++ D.vars).Nodup := fun h => hnd (HDEQ.out.2 (HRN.out.2 (HNQ.out.2 h)))
                    unfold descOk
                    rw [decide_eq_false h2, Bool.and_false])
                  clear hnd
                  go_wp2_with (go_at_call 60; go_must (refine (errNew _ _).mono ?_))
                  rintro e w6' ⟨⟨er, rfl, her⟩, hb6⟩
                  have hD6 : DB w6' P _ _ _ _ _ _ _ _ := HDG.out.chg (Chg.of_below hb6 Non) (fun h => h)
                  have c7 := hD6.c7
                  have f7 := hD6.fz 7
                  have HBAD := Lib.hid (bad_said (CQ := CQ) (w0 := w0) hD6 (hbG.trans (hb6.mono hbG.size)) HPN.out.2.2.2 her HOK.out HW0.out)
                  obtain ⟨et, ex, rfl⟩ := her
                  clear hD6 hb6 hnr hst hch
                  go_wp2_with fail
                  go_ret
                  exact HBAD.out
end Go.Proofs.YtojlpfakdodnfaaGreatDoor
