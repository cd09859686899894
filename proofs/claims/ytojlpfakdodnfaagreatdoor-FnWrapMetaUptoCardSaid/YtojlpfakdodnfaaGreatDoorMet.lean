/- metaTo, impl.desc. -/
import Derived.Test.YtojlpfakdodnfaaGreatDoorSay
import Derived.Test.YtojlpfakdodnfaaGreatDoorPair
import Derived.Test.YtojlpfakdodnfaaGreatDoorRng2
import Derived.Deep.RegionHeld3
set_option linter.unusedVariables false
set_option linter.unusedSimpArgs false
namespace Go.Proofs.YtojlpfakdodnfaaGreatDoor
open Go.RowKit

set_option maxRecDepth 100000 in
/-- append(row, texts...) as a step of a region that draws its order. -/
theorem step_strs {ops : Array Oper} {o : Oper} {a : Act} {K : Act → World → Prop} {Q : Exit → Act → World → Prop} {E : Prop} {w : World} (hgd : o.guard = none) (s x : Operand)
    (ho : o.op = .call { callee := .builtin .append, args := #[s, x], argTypes := #[22, 22] })
    {B n : Nat} {v vv : Value} {xs : List Value} {vars : List ByteArray} (hs : a.eval s = v) (hx : a.eval x = vv) (hown : w.ownsRow B 9 1 v n xs) (hv : RdC Value.string w vv vars) (hn : n + vars.length ≤ 16777216) (hB : B ≤ w.heap.size)
    (hK : ∀ v' w', w'.ownsRow B 9 1 v' (n + vars.length) (xs ++ vars.map Value.string) → w.grownBy w' v.ownBlock → K (a.put o.dst v') w') :
    if Region.wanted o (yielded ops a.tmps) = true then Oper.wp Tryz.prog o a w K Q else E := by
  have hw : Region.wanted o (yielded ops a.tmps) = true := by simp [Region.wanted, hgd]
  rw [if_pos hw]
  obtain ⟨z0, hzi, hzz, hzs, hzb⟩ := info_parts info_st
  obtain ⟨p, cap, b, off, rfl, hcap, hmx, hp, hc⟩ := hv
  by_cases h0 : vars = []
  · subst h0
    obtain ⟨a1, c1, rfl, hc1⟩ := own_shapeL hown
    have hrun := run_append0 (P := Tryz.prog) (w := w) 22 o.type 9 z0 Tryz.underlying22 hzi a1 n c1 p cap hc1
    unfold Oper.wp
    simp only [execOp, ho, resolve, invoke, builtin, Sem.run_bind, Sem.run_pure, Result.andThen_ok, List.map_toArray, List.map_cons, List.map_nil, hs, hx, List.length_nil, hrun]
    exact hK _ _ (by simpa using hown) ⟨rfl, rfl, rfl, Nat.le_refl _, fun _ _ _ => rfl⟩
  · have hp2 : p = some ⟨b, off, none⟩ := hp.resolve_left h0
    subst hp2
    obtain ⟨v', w', hr, h2, h3, h4, h5⟩ := run_append_own_at (P := Tryz.prog) w B 22 o.type 9 z0 (.string ⟨#[]⟩) 1 16 Tryz.underlying22 hzi hzz hzs hzb rfl (by decide) v n xs hown ⟨b, off, none⟩ vars.length cap (vars.map Value.string) (by simp)
      (fun j u hj => by
        rw [List.getElem?_map] at hj
        cases hy : vars[j]? with
        | none => rw [hy] at hj; cases hj
        | some y =>
          rw [hy] at hj
          injection hj with hj
          subst hj
          have e : (⟨b, off, none⟩ : Addr).add j = ⟨b, off + j, none⟩ := by unfold Addr.add; split <;> simp_all
          rw [e]
          exact hc j y hy)
      (fun u hu => by obtain ⟨y, _, rfl⟩ := List.mem_map.1 hu; rfl) (by unfold maxLen; omega) (by omega) hB
    unfold Oper.wp
    simp only [execOp, ho, resolve, invoke, builtin, Sem.run_bind, Sem.run_pure, Result.andThen_ok, List.map_toArray, List.map_cons, List.map_nil, hs, hx, hr]
    exact hK _ _ h2 h3
theorem Bw.alloc {B : Nat} {w x : World} (h : Below B w x) (hB : B ≤ w.heap.size) (o : Obj) : Below B w (x.alloc o) := h.alloc (Nat.le_trans hB h.size) o
/-- A world of this call: all below R stands, and block R is a row of n cells. -/
structure Rl (w1 : World) (R n : Nat) (T : TypeId) (x : World) : Prop where
  below : Below R w1 x
  row : ∃ cs, x.heap[R]? = some (.cells cs T (0, 0)) ∧ cs.size = n
theorem Rl.drew {w1 x : World} {R n : Nat} {T : TypeId} (h : Rl w1 R n T x) : Rl w1 R n T x.drew := ⟨h.below.drew, h.row⟩
theorem Rl.lt {w1 x : World} {R n : Nat} {T : TypeId} (h : Rl w1 R n T x) : R < x.heap.size := by obtain ⟨cs, h1, _⟩ := h.row; exact (Array.getElem?_eq_some_iff.1 h1).1
theorem Rl.alloc {w1 x : World} {R n : Nat} {T : TypeId} (h : Rl w1 R n T x) (o : Obj) : Rl w1 R n T (x.alloc o) := ⟨h.below.alloc (Nat.le_of_lt h.lt) o, by obtain ⟨cs, h1, h2⟩ := h.row; exact ⟨cs, (Below.heap_alloc _ _ _ h.lt).trans h1, h2⟩⟩
theorem Rl.grown {w1 x y : World} {R n : Nat} {T : TypeId} {row : Option Nat} (h : Rl w1 R n T x) (hg : x.grownBy y row) (hr : ∀ q, row = some q → R < q) : Rl w1 R n T y :=
  ⟨h.below.grown hg (Nat.le_of_lt h.lt) (fun q hq => Nat.le_of_lt (hr q hq)), by obtain ⟨cs, h1, h2⟩ := h.row; exact ⟨cs, (hg.block R h.lt (fun e => absurd (hr R e.symm) (Nat.lt_irrefl _))).trans h1, h2⟩⟩
theorem Rl.then {w1 x y : World} {R n : Nat} {T : TypeId} (h : Rl w1 R n T x) (hb : Below x.heap.size x y) : Rl w1 R n T y :=
  ⟨h.below.trans (hb.mono (Nat.le_of_lt h.lt)), by obtain ⟨cs, h1, h2⟩ := h.row; exact ⟨cs, (hb.block R h.lt).trans h1, h2⟩⟩
theorem Rl.set {w1 x : World} {R n : Nat} {T : TypeId} (h : Rl w1 R n T x) (i : Nat) (v : Value) : Rl w1 R n T (x.setCell ⟨R, i, none⟩ v) :=
  ⟨h.below.setCell (p := ⟨R, i, none⟩) (Nat.le_refl _) v, by obtain ⟨cs, h1, h2⟩ := h.row; exact ⟨_, hset h1 v, by simpa using h2⟩⟩
theorem Rl.has {w1 x : World} {R n : Nat} {T : TypeId} (h : Rl w1 R n T x) (i : Nat) (hi : i < n) : (x.cell? ⟨R, i, none⟩).isSome = true := by
  obtain ⟨cs, h1, h2⟩ := h.row
  rw [Lib.cell_of_heap h1]
  simp; omega
def cellV (x : World) (a : Addr) : Value := (x.cell? a).getD (.bool false)
theorem Rl.cv {w1 x : World} {R n : Nat} {T : TypeId} (h : Rl w1 R n T x) (i : Nat) (hi : i < n) : x.cell? ⟨R, i, none⟩ = some (cellV x ⟨R, i, none⟩) := by
  have h1 := h.has i hi
  obtain ⟨v, hv⟩ := Option.isSome_iff_exists.1 h1
  show _ = some ((x.cell? ⟨R, i, none⟩).getD (.bool false))
  rw [hv]; rfl
theorem Rl.fz {w1 x : World} {R n : Nat} {T : TypeId} (h : Rl w1 R n T x) (i : Nat) : x.frozen? ⟨R, i, none⟩ = false := by
  obtain ⟨cs, h1, h2⟩ := h.row
  exact Lib.frozen_of_heap h1 i
theorem row5 {w : World} {R : Nat} {T : TypeId} {cs : Array Value} (h : w.heap[R]? = some (.cells cs T (0, 0))) (hs : cs.size = 5) (a b c d e : Value) :
    (((((w.setCell ⟨R, 0, none⟩ a).setCell ⟨R, 1, none⟩ b).setCell ⟨R, 2, none⟩ c).setCell ⟨R, 3, none⟩ d).setCell ⟨R, 4, none⟩ e).heap[R]? = some (.cells #[a, b, c, d, e] T (0, 0)) := by
  refine (hset (i := 4) (hset (i := 3) (hset (i := 2) (hset (i := 1) (hset (i := 0) h a) b) c) d) e).trans ?_
  obtain ⟨l⟩ := cs
  match l, hs with
  | [x0, x1, x2, x3, x4], _ => rfl
theorem RdE.shape {w : World} {v : Value} {xs : List Ent} (h : RdE w v xs) : ∃ a c, v = .slice a xs.length c := by
  obtain ⟨a, c, _, _, rfl, _⟩ := h
  exact ⟨a, c, rfl⟩
def SaidMeta (D : Dsc) (w w' : World) (e : Ending) : Prop := (∃ v3 v4, e = .returned (MetaV D.name D.help D.unit v3 v4) ∧ RdC Value.string w' v3 D.vars ∧ RdE w' v4 D.cons) ∧ Below w.heap.size w w'
set_option maxHeartbeats 6400000 in
set_option maxRecDepth 100000 in
theorem metaToK (D : Dsc) (v1 v2 : Value) (w : World) (hv1 : RdC Value.string w v1 D.vars) (hv2 : RdE w v2 D.cons) (hl1 : D.vars.length ≤ 4194304) (hl2 : D.cons.length ≤ 4194304) :
    Calls Tryz.prog 10 #[MetaV D.name D.help D.unit v1 v2] w fun e w' => SaidMeta D w w' e := by
  have HV1 := Lib.hid hv1
  have HV2 := Lib.hid hv2
  obtain ⟨a1, cap1, b1, o1, rfl, _⟩ := hv1
  obtain ⟨a2, cap2, b2, o2, rfl, _⟩ := hv2
  go_enter Tryz.func10, Tryz.ntmps10
  go_upto_region 1 with fail
  have hA := heap_alloc_new w (.cells #[.string D.name, .string D.help, .string D.unit, .slice a1 D.vars.length cap1, .slice a2 D.cons.length cap2] 25)
  have hZ := heap_alloc2_new w (.cells #[.string D.name, .string D.help, .string D.unit, .slice a1 D.vars.length cap1, .slice a2 D.cons.length cap2] 25) (.cells #[.string ⟨#[]⟩, .string ⟨#[]⟩, .string ⟨#[]⟩, .slice none 0 0, .slice none 0 0] 30)
  have hb1 := ((Below.refl _ w).alloc (Nat.le_refl _) (.cells #[.string D.name, .string D.help, .string D.unit, .slice a1 D.vars.length cap1, .slice a2 D.cons.length cap2] 25)).alloc (by simp) (.cells #[.string ⟨#[]⟩, .string ⟨#[]⟩, .string ⟨#[]⟩, .slice none 0 0, .slice none 0 0] 30)
  have hA2 := (Below.heap_alloc (w.alloc (.cells #[.string D.name, .string D.help, .string D.unit, .slice a1 D.vars.length cap1, .slice a2 D.cons.length cap2] 25)) (.cells #[.string ⟨#[]⟩, .string ⟨#[]⟩, .string ⟨#[]⟩, .slice none 0 0, .slice none 0 0] 30) w.heap.size (by simp)).trans hA
  generalize ((w.alloc (.cells #[.string D.name, .string D.help, .string D.unit, .slice a1 D.vars.length cap1, .slice a2 D.cons.length cap2] 25)).alloc (.cells #[.string ⟨#[]⟩, .string ⟨#[]⟩, .string ⟨#[]⟩, .slice none 0 0, .slice none 0 0] 30)) = w1 at *
  clear hA
  have hR0 : Rl w1 (w.heap.size + 1) 5 30 w1 := ⟨Below.refl _ _, _, hZ, rfl⟩
  have KS : Hid (∀ x, Rl w1 (w.heap.size + 1) 5 30 x → (x.cell? ⟨w.heap.size, 0, none⟩ = some (.string D.name) ∧ x.cell? ⟨w.heap.size, 1, none⟩ = some (.string D.help) ∧ x.cell? ⟨w.heap.size, 2, none⟩ = some (.string D.unit) ∧ x.cell? ⟨w.heap.size, 3, none⟩ = some (.slice a1 D.vars.length cap1) ∧ x.cell? ⟨w.heap.size, 4, none⟩ = some (.slice a2 D.cons.length cap2) ∧ x.cell? ⟨w.heap.size + 1, 0, none⟩ = some (cellV x ⟨w.heap.size + 1, 0, none⟩) ∧ x.cell? ⟨w.heap.size + 1, 1, none⟩ = some (cellV x ⟨w.heap.size + 1, 1, none⟩) ∧ x.cell? ⟨w.heap.size + 1, 2, none⟩ = some (cellV x ⟨w.heap.size + 1, 2, none⟩) ∧ x.cell? ⟨w.heap.size + 1, 3, none⟩ = some (cellV x ⟨w.heap.size + 1, 3, none⟩) ∧ x.cell? ⟨w.heap.size + 1, 4, none⟩ = some (cellV x ⟨w.heap.size + 1, 4, none⟩) ∧ x.frozen? ⟨w.heap.size + 1, 0, none⟩ = false ∧ x.frozen? ⟨w.heap.size + 1, 1, none⟩ = false ∧ x.frozen? ⟨w.heap.size + 1, 2, none⟩ = false ∧ x.frozen? ⟨w.heap.size + 1, 3, none⟩ = false ∧ x.frozen? ⟨w.heap.size + 1, 4, none⟩ = false)) := Lib.hid (fun x hx => by
    have h := (hx.below.block w.heap.size (by omega)).trans hA2
    refine ⟨?_, ?_, ?_, ?_, ?_, hx.cv 0 (by omega), hx.cv 1 (by omega), hx.cv 2 (by omega), hx.cv 3 (by omega), hx.cv 4 (by omega), hx.fz 0, hx.fz 1, hx.fz 2, hx.fz 3, hx.fz 4⟩ <;> (rw [Lib.cell_of_heap h]; rfl))
  have HB1 := Lib.hid hb1
  have HBW : Hid (∀ x, Rl w1 (w.heap.size + 1) 5 30 x → Below w.heap.size w x) := Lib.hid (fun x hx => HB1.out.trans (hx.below.mono (by omega)))
  have HP2 : Hid (∀ x, Rl w1 (w.heap.size + 1) 5 30 x → Calls Tryz.prog 25 #[.slice a2 D.cons.length cap2] x fun e w' => SaidTO D.cons x w' e) := Lib.hid (fun x hx => pairsToO _ D.cons x (HV2.out.below (HBW.out x hx)) hl2)
  have HVV : Hid (∀ x, Rl w1 (w.heap.size + 1) 5 30 x → RdC Value.string x (.slice a1 D.vars.length cap1) D.vars) := Lib.hid (fun x hx => HV1.out.below (HBW.out x hx))
  clear hA2 hb1 hZ
  go_region_held3 (fun x => x.cell? ⟨w.heap.size, 0, none⟩ = some (.string D.name) ∧ x.cell? ⟨w.heap.size, 1, none⟩ = some (.string D.help) ∧ x.cell? ⟨w.heap.size, 2, none⟩ = some (.string D.unit) ∧ x.cell? ⟨w.heap.size, 3, none⟩ = some (.slice a1 D.vars.length cap1) ∧ x.cell? ⟨w.heap.size, 4, none⟩ = some (.slice a2 D.cons.length cap2) ∧ x.cell? ⟨w.heap.size + 1, 0, none⟩ = some (cellV x ⟨w.heap.size + 1, 0, none⟩) ∧ x.cell? ⟨w.heap.size + 1, 1, none⟩ = some (cellV x ⟨w.heap.size + 1, 1, none⟩) ∧ x.cell? ⟨w.heap.size + 1, 2, none⟩ = some (cellV x ⟨w.heap.size + 1, 2, none⟩) ∧ x.cell? ⟨w.heap.size + 1, 3, none⟩ = some (cellV x ⟨w.heap.size + 1, 3, none⟩) ∧ x.cell? ⟨w.heap.size + 1, 4, none⟩ = some (cellV x ⟨w.heap.size + 1, 4, none⟩) ∧ x.frozen? ⟨w.heap.size + 1, 0, none⟩ = false ∧ x.frozen? ⟨w.heap.size + 1, 1, none⟩ = false ∧ x.frozen? ⟨w.heap.size + 1, 2, none⟩ = false ∧ x.frozen? ⟨w.heap.size + 1, 3, none⟩ = false ∧ x.frozen? ⟨w.heap.size + 1, 4, none⟩ = false)
    (exact KS.out _ (by repeat (first | assumption | apply Rl.drew | apply Rl.alloc | apply Rl.set)))
    (first
      | (go_at_call 25
         refine (HP2.out _ (by repeat (first | assumption | apply Rl.drew | apply Rl.alloc | apply Rl.set))).mono ?_
         rintro e wp ⟨⟨pv, rfl, hpv⟩, hbp⟩
         obtain ⟨pa, pc, rfl, hpc⟩ := own_shapeL hpv
         have hRp : Rl w1 (w.heap.size + 1) 5 30 wp := Rl.then (by repeat (first | assumption | apply Rl.drew | apply Rl.alloc | apply Rl.set)) hbp)
      | (refine step_strs (by rfl) _ _ (by rfl) (B := w1.heap.size) (n := 0) (xs := []) (vars := D.vars) (by rfl) (by rfl) (rowNew w1.drew w1.heap.size (Nat.le_refl _)) (HVV.out _ (by repeat (first | assumption | apply Rl.drew | apply Rl.alloc | apply Rl.set))) (by omega) (by simp) ?_
         intro nv wa hown hgr
         obtain ⟨na, nc, rfl, hnc⟩ := own_shapeL hown
         have hRa : Rl w1 (w.heap.size + 1) 5 30 wa := Rl.grown (by repeat (first | assumption | apply Rl.drew | apply Rl.alloc | apply Rl.set)) hgr (fun q hq => by have h1 := Option.some.inj (show some w1.heap.size = some q from hq); have := hR0.lt; omega)))
  obtain ⟨cs, hcs, hcz⟩ := hRp.row
  have hfin := row5 hcs hcz (.string D.name) (.string D.help) (.string D.unit) (.slice na D.vars.length nc) (.slice pa D.cons.length pc)
  have hcS : Chg (fun i => i = w.heap.size + 1) wp _ := (((((Chg.refl (fun i => i = w.heap.size + 1) wp).setCell (p := ⟨w.heap.size + 1, 0, none⟩) (.inl rfl) (.string D.name)).setCell (p := ⟨w.heap.size + 1, 1, none⟩) (.inl rfl) (.string D.help)).setCell (p := ⟨w.heap.size + 1, 2, none⟩) (.inl rfl) (.string D.unit)).setCell (p := ⟨w.heap.size + 1, 3, none⟩) (.inl rfl) (.slice na D.vars.length nc)).setCell (p := ⟨w.heap.size + 1, 4, none⟩) (.inl rfl) (.slice pa D.cons.length pc)
  have hra := (Chg.of_below hbp Non).row hown (fun q _ h => h)
  have hrb := hcS.row hra (fun q hq e => by have h1 := (row_from hown q hq).1; have h2 : q = w.heap.size + 1 := e; have := hR0.lt; omega)
  have hrc := hcS.row hpv (fun q hq e => by have h1 := (row_from hpv q hq).1; have h2 : q = w.heap.size + 1 := e; have := hRa.lt; omega)
  have HRB := Lib.hid (RdC.of_owns (by simpa using hrb))
  have HRC := Lib.hid (RdE.of_owns hrc)
  have HBB := Lib.hid (HBW.out _ (((((hRp.set 0 (.string D.name)).set 1 (.string D.help)).set 2 (.string D.unit)).set 3 (.slice na D.vars.length nc)).set 4 (.slice pa D.cons.length pc)))
  clear hra hrb hrc hcS hcs hcz hown hpv
  go_wp2_with fail
  refine bodyPost_ret (results_cell_row rfl _ _ (w.heap.size + 1) 30 #[.string D.name, .string D.help, .string D.unit, .slice na D.vars.length nc, .slice pa D.cons.length pc] (0, 0) _ rfl hfin Tryz.underlying30 rfl (by kernel_rfl)) rfl ?_
  exact ⟨⟨_, _, rfl, HRB.out, HRC.out⟩, HBB.out⟩
end Go.Proofs.YtojlpfakdodnfaaGreatDoor
