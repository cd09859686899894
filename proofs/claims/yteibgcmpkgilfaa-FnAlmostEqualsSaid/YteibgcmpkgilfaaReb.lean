/- SameNum, SameNums and BucketPick, at lists of positive numbers. -/
import Derived.Test.YteibgcmpkgilfaaSl
import Derived.Test.YteibgcmpkgilfaaFlt
import Derived.OwnWalk
import Derived.Deep.DeepMust
import Derived.Deep.QuietTactic
import Derived.BigQuiet
import Derived.WalkSpells
import Derived.WalkLawsBesides
import Derived.Laws.FloatArith
set_option linter.unusedVariables false
set_option linter.unusedSimpArgs false
namespace Go.Proofs.Yteibgcmpkgilfaa
open Go.RowKit Go.WideShapes

abbrev RdF := RdC (Value.float .f64)

/-- The numbers are the same: equal, or neither is a number. -/
def sameB (x y : Nat) : Bool := (Ieee.double.order x y == some .eq) || ((Ieee.double.order x x != some .eq) && (Ieee.double.order y y != some .eq))

theorem sameNum_any (x y : Nat) (w : World) :
    Calls Try.prog 23 #[.float .f64 x, .float .f64 y] w fun e w' => e = .returned (.bool (sameB x y)) ∧ w = w' := by
  unfold sameB
  cases h1 : (FloatKind.f64.format.order x y == some .eq) <;> cases h2 : (FloatKind.f64.format.order x x != some .eq) <;> cases h3 : (FloatKind.f64.format.order y y != some .eq)
  all_goals
    have h1' : (Ieee.double.order x y == some .eq) = _ := h1
    have h2' : (Ieee.double.order x x != some .eq) = _ := h2
    have h3' : (Ieee.double.order y y != some .eq) = _ := h3
    rw [h1', h2', h3']
    clear h1' h2' h3'
    go_enter Try.func23, Try.ntmps23
    go_wp2
    go_ret
    exact ⟨rfl, rfl⟩

def sameL : List Nat → List Nat → Bool
  | [], [] => true
  | x :: xs, y :: ys => sameB x y && sameL xs ys
  | _, _ => false

set_option maxHeartbeats 800000 in
set_option maxRecDepth 100000 in
theorem sameNums_any (u v : Value) (xs ys : List Nat) (w : World) (hu : RdF w u xs) (hv : RdF w v ys) :
    Calls Try.prog 10 #[u, v] w fun e w' => e = .returned (.bool (sameL xs ys)) ∧ Below w.heap.size w w' := by
  obtain ⟨a, cap, b, off, rfl, hl, hm, ha, hc⟩ := hu
  obtain ⟨a2, cap2, b2, off2, rfl, hl2, hm2, ha2, hc2⟩ := hv
  by_cases hlen : xs.length = ys.length
  · have HL := Lib.hid hlen
    have hne : ((xs.length : Int) != (ys.length : Int)) = false := by simp [hlen]
    have hle : xs.length ≤ ys.length := by omega
    unfold maxLen at hm hm2
    clear hlen
    go_enter Try.func10, Try.ntmps10
    go_wp2
    go_loopw [5] (fun i wr => ∃ k : Nat, k ≤ xs.length ∧ i = .int .i64 k ∧ sameL xs ys = sameL (xs.drop k) (ys.drop k) ∧ Below w.heap.size w wr) (fun i _ => xs.length - (intOf i).toNat)
    case atStart => exact ⟨0, Nat.zero_le _, rfl, rfl, Below.refl _ _⟩
    case round =>
      obtain ⟨k, hk, rfl, hs, hb⟩ := hrel
      have HS := Lib.hid hs
      clear hs
      by_cases hlt : k < xs.length
      · have hlt2 : k < ys.length := by omega
        obtain rfl : a = some ⟨b, off, none⟩ := ha.resolve_left (by intro h; simp [h] at hlt)
        have hcx := RdC.at hc hb hlt
        have hcy := RdC.at hc2 hb hlt2
        have hcy2 : a2 = some ⟨b2, off2, none⟩ := ha2.resolve_left (by intro h; simp [h] at hlt2)
        subst hcy2
        have hst : sameL (xs.drop k) (ys.drop k) = (sameB xs[k] ys[k] && sameL (xs.drop (k + 1)) (ys.drop (k + 1))) := by
          rw [List.drop_eq_getElem_cons hlt, List.drop_eq_getElem_cons hlt2]; rfl
        have HT := Lib.hid hst
        clear hst
        generalize xs[k] = x at *
        generalize ys[k] = y at *
        have hki : (k : Int) < xs.length := by omega
        have hki2 : (k : Int) < ys.length := by omega
        go_wp2_with fail
        cases hs : sameB x y with
        | true =>
          have HB := Lib.hid hs
          clear hs
          go_quiet ((go_at_call 23; exact qsame ((sameNum_any _ _ _).mono fun _ _ h => by rw [HB.out] at h; exact h)))
          go_wp2_with fail
          go_roundw
          case rel => exact ⟨k + 1, by omega, by go_num, by rw [HS.out, HT.out, HB.out]; rfl, below_drewN hb _⟩
          case measure => simp [intOf]; omega
        | false =>
          have HB := Lib.hid hs
          clear hs
          go_quiet ((go_at_call 23; exact qsame ((sameNum_any _ _ _).mono fun _ _ h => by rw [HB.out] at h; exact h)))
          go_wp2_with fail
          go_ret
          exact ⟨ret_bool (by rw [HS.out, HT.out, HB.out]; rfl), below_drewN hb _⟩
      · go_wp2_with fail
        go_ret
        have e1 : xs.drop k = [] := List.drop_eq_nil_of_le (by omega)
        have e2 : ys.drop k = [] := List.drop_eq_nil_of_le (by rw [← HL.out]; omega)
        exact ⟨ret_bool (by rw [HS.out, e1, e2]; rfl), hb⟩
  · have hne : ((xs.length : Int) != (ys.length : Int)) = true := by rw [bne_iff_ne]; omega
    have hf : sameL xs ys = false := by
      clear hc hc2 ha ha2 hne hl hl2 hm hm2
      induction xs generalizing ys with
      | nil => cases ys with
        | nil => exact absurd rfl hlen
        | cons y r => rfl
      | cons x r ih => cases ys with
        | nil => rfl
        | cons y q => simp only [sameL]; rw [ih q (by simpa using hlen), Bool.and_false]
    unfold maxLen at hm hm2
    go_enter Try.func10, Try.ntmps10
    go_wp2
    go_ret
    exact ⟨ret_bool hf.symm, Below.refl _ _⟩

/-! ### BucketPick -/
def mulB (x y : Nat) : Nat := (floatBits .mul .f64 x y).getD 0
def geB (x y : Nat) : Bool := Ieee.double.order x y == some .gt || Ieee.double.order x y == some .eq
def pickStep (base : Nat) (out : List Nat) (x : Nat) : List Nat := match out.getLast? with
  | none => [x]
  | some y => if geB x (mulB y base) then out ++ [x] else out
def pick (base : Nat) (xs : List Nat) : List Nat := xs.foldl (pickStep base) []
theorem pick_snoc (base : Nat) (xs : List Nat) (x : Nat) : pick base (xs ++ [x]) = pickStep base (pick base xs) x := by simp [pick]
theorem pickStep_mem {base x y : Nat} {out : List Nat} (h : y ∈ pickStep base out x) : y ∈ out ∨ y = x := by
  unfold pickStep at h
  split at h
  · simp at h; exact .inr h
  · split at h
    · simpa using h
    · exact .inl h
theorem pick_mem (base : Nat) (xs : List Nat) : ∀ y ∈ pick base xs, y ∈ xs := by
  have key : ∀ (xs out : List Nat) y, y ∈ xs.foldl (pickStep base) out → y ∈ out ∨ y ∈ xs := by
    intro xs
    induction xs with
    | nil => intro out y h; exact .inl h
    | cons x r ih =>
      intro out y h
      rcases ih _ y h with h1 | h1
      · rcases pickStep_mem h1 with h2 | h2
        · exact .inl h2
        · exact .inr (by simp [h2])
      · exact .inr (by simp [h1])
  intro y h
  rcases key xs [] y h with h1 | h1
  · cases h1
  · exact h1
theorem pick_len (base : Nat) (xs : List Nat) : (pick base xs).length ≤ xs.length := by
  have key : ∀ (xs out : List Nat), (xs.foldl (pickStep base) out).length ≤ out.length + xs.length := by
    intro xs
    induction xs with
    | nil => intro out; simp
    | cons x r ih =>
      intro out
      have h1 := ih (pickStep base out x)
      have h2 : (pickStep base out x).length ≤ out.length + 1 := by
        unfold pickStep
        split
        · rename_i h; simp
        · split <;> simp
      simp; omega
  simpa [pick] using key xs []
theorem take_snocL (xs : List Nat) (k : Nat) (h : k < xs.length) : xs.take (k + 1) = xs.take k ++ [xs[k]] := List.take_succ_eq_append_getElem h

theorem info_f64 : (Try.prog.info? 25).map (fun i => (i.zero, i.size, i.bytes)) = some (some (.float .f64 0), 1, 8) := by kernel_rfl

set_option maxHeartbeats 1600000 in
set_option maxRecDepth 100000 in
theorem bucketPick_own (v : Value) (xs : List Nat) (base : Nat) (w : World) (hv : RdF w v xs) (hx : ∀ x ∈ xs, FP x) (hb0 : FP base) (hsz : xs.length ≤ 2147483647) :
    Calls Try.prog 11 #[v, .float .f64 base] w fun e w' => ∃ v', e = .returned v' ∧ w'.ownsRow w.heap.size 25 1 v' (pick base xs).length ((pick base xs).map (Value.float .f64)) ∧ Below w.heap.size w w' := by
  obtain ⟨i0, hi, hz0, hz1, hz2⟩ := info_parts info_f64
  obtain ⟨a, cap, b, off, rfl, hl, hm, ha, hc⟩ := hv
  unfold maxLen at hm
  go_enter Try.func11, Try.ntmps11
  go_wp2
  go_loopw [5, 6] (fun v i wr => ∃ k : Nat, k ≤ xs.length ∧ i = .int .i64 k ∧ wr.ownsRow w.heap.size 25 1 v (pick base (xs.take k)).length ((pick base (xs.take k)).map (Value.float .f64)) ∧ Below w.heap.size w wr) (fun _ i _ => xs.length - (intOf i).toNat)
  case atStart => exact ⟨0, Nat.zero_le _, rfl, World.ownsRow_nil _ _ _ _, Below.refl _ _⟩
  case round =>
    obtain ⟨k, hk, rfl, hown, hb⟩ := hrel
    by_cases hlt : k < xs.length
    · obtain rfl : a = some ⟨b, off, none⟩ := ha.resolve_left (by intro h; simp [h] at hlt)
      have hcx := RdC.at hc hb hlt
      have hts := Lib.hid (take_snocL xs k hlt)
      have hfx := hx xs[k] (List.getElem_mem _)
      have hpl := pick_len base (xs.take k)
      have htl : (xs.take k).length ≤ k := List.length_take_le _ _
      have hpm := pick_mem base (xs.take k)
      have hxk : ∀ y ∈ xs.take k, FP y := fun y hy => hx y (List.mem_of_mem_take hy)
      generalize xs[k] = x at *
      have HN := Lib.hid (show pick base (xs.take (k + 1)) = pickStep base (pick base (xs.take k)) x by rw [hts.out, pick_snoc])
      generalize pick base (xs.take k) = out at *
      cases hg : out.getLast? with
      | none =>
        obtain rfl : out = [] := List.getLast?_eq_none_iff.1 hg
        obtain ⟨ao, cp, rfl⟩ : ∃ ao cp, u5 = .slice ao 0 cp := by
          rcases hown.2 with ⟨rfl, _⟩ | ⟨g, cp, cur, rfl, _⟩ <;> exact ⟨_, _, rfl⟩
        clear hg hpm hpl
        go_wp2_with fail
        go_quiet (fail)
        have hbq := below_drewN hb nq
        have hownq : (wr.drewN nq).ownsRow w.heap.size 25 1 (.slice ao 0 cp) 0 [] := hown
        go_wp2_with (at_builtin; go_must (refine wpList_append_own _ rfl _ _ 23 rfl w.heap.size 25 i0 (.float .f64 0) 1 8 Try.underlying23 hi hz0 hz1 hz2 rfl (by decide) _ _ _ rfl (hownq.alloc _) ⟨(wr.drewN nq).heap.size, 0, none⟩ 1 1 [.float .f64 x] rfl rfl ?c1 ?c2 ?c3 ?c4 ?c5 ?_))
        case c1 => exact cell_one_new _ _ _
        case c2 => intro u hu; simp at hu; subst hu; rfl
        case c3 => unfold maxLen; omega
        case c4 => omega
        case c5 => exact Nat.le_trans hbq.size (size_alloc_le _ _)
        intro v' w2 hown' hgrow _
        have hb2 := (hbq.alloc hbq.size (.cells #[.float .f64 x] 25)).grown hgrow (Nat.le_trans hbq.size (size_alloc_le _ _)) (fun k hk => (hown.lt k hk).1)
        go_wp2_with fail
        go_roundw
        case rel =>
          refine ⟨k + 1, by omega, by go_num, ?_, hb2⟩
          rw [HN.out, show pickStep base [] x = [x] from rfl]
          simpa using hown'
        case measure => simp [intOf]; omega
      | some y =>
        have hne : out ≠ [] := by intro h; rw [h] at hg; cases hg
        have hpos : 0 < out.length := List.length_pos_iff.2 hne
        have hz : ((out.length : Int) == 0) = false := by rw [beq_eq_false_iff_ne]; omega
        have hfy := hxk y (hpm y (List.mem_of_getLast? hg))
        obtain ⟨r, hmr, hnr⟩ := mul_nn hfy hb0
        have hmB : mulB y base = r := by unfold mulB; rw [hmr]; rfl
        have hmul := fun t wx => run_float_arith (P := Try.prog) wx .mul t .f64 y base r hmr
        obtain ⟨g, cp, cur, rfl, hgb⟩ : ∃ g cp cur, u5 = .slice (some ⟨g, 0, none⟩) out.length cp ∧ wr.heap[g]? = some (.cells cur 25 (0, 0)) := by
          rcases hown.2 with ⟨_, h0⟩ | ⟨g, cp, cur, rfl, _, hgb, _⟩
          · omega
          · exact ⟨_, _, _, rfl, hgb⟩
        have hlast : wr.cell? ⟨g, out.length - 1, none⟩ = some (.float .f64 y) := by
          have := hown.cells (g := g) rfl (out.length - 1) (.float .f64 y) (by rw [List.getElem?_map, ← List.getLast?_eq_getElem?, hg]; rfl)
          rwa [show (⟨g, 0, none⟩ : Addr).add (out.length - 1) = ⟨g, out.length - 1, none⟩ by unfold Addr.add; split <;> simp_all] at this
        have HG := Lib.hid hg
        have HM := Lib.hid hmB
        clear hg hmB hne hpm hmr
        cases hge : geB x r with
        | true =>
          have HGE := Lib.hid hge
          have hge2 : (FloatKind.f64.format.order x r == some .gt || FloatKind.f64.format.order x r == some .eq) = true := hge
          clear hge
          go_wp2_with fail
          go_quiet (fail)
          have hbq := below_drewN hb nq
          have hownq : (wr.drewN nq).ownsRow w.heap.size 25 1 (.slice (some ⟨g, 0, none⟩) out.length cp) out.length (out.map (Value.float .f64)) := hown
          go_wp2_with (at_builtin; go_must (refine wpList_append_own _ rfl _ _ 23 rfl w.heap.size 25 i0 (.float .f64 0) 1 8 Try.underlying23 hi hz0 hz1 hz2 rfl (by decide) _ _ _ rfl (hownq.alloc _) ⟨(wr.drewN nq).heap.size, 0, none⟩ 1 1 [.float .f64 x] rfl rfl ?c1 ?c2 ?c3 ?c4 ?c5 ?_))
          case c1 => exact cell_one_new _ _ _
          case c2 => intro u hu; simp at hu; subst hu; rfl
          case c3 => unfold maxLen; omega
          case c4 => omega
          case c5 => exact Nat.le_trans hbq.size (size_alloc_le _ _)
          intro v' w2 hown' hgrow _
          have hb2 := (hbq.alloc hbq.size (.cells #[.float .f64 x] 25)).grown hgrow (Nat.le_trans hbq.size (size_alloc_le _ _)) (fun k hk => (hown.lt k hk).1)
          go_wp2_with fail
          go_roundw
          case rel =>
            refine ⟨k + 1, by omega, by go_num, ?_, hb2⟩
            rw [HN.out, show pickStep base out x = out ++ [x] by unfold pickStep; rw [HG.out]; simp only; rw [HM.out, HGE.out]; rfl]
            simpa using hown'
          case measure => simp [intOf]; omega
        | false =>
          have HGE := Lib.hid hge
          have hge2 : (FloatKind.f64.format.order x r == some .gt || FloatKind.f64.format.order x r == some .eq) = false := hge
          clear hge
          go_wp2_with fail
          go_quiet (fail)
          go_wp2_with fail
          go_roundw
          case rel =>
            refine ⟨k + 1, by omega, by go_num, ?_, below_drewN hb nq⟩
            rw [HN.out, show pickStep base out x = out by unfold pickStep; rw [HG.out]; simp only; rw [HM.out, HGE.out]; rfl]
            exact hown
          case measure => simp [intOf]; omega
    · go_wp2_with fail
      go_ret
      rw [List.take_of_length_le (by omega)] at hown
      exact ⟨_, rfl, hown, hb⟩

theorem bucketPick_any (v : Value) (xs : List Nat) (base : Nat) (w : World) (hv : RdF w v xs) (hx : ∀ x ∈ xs, FP x) (hb0 : FP base) (hsz : xs.length ≤ 2147483647) :
    Calls Try.prog 11 #[v, .float .f64 base] w fun e w' => ∃ v', e = .returned v' ∧ RdF w' v' (pick base xs) ∧ Below w.heap.size w w' :=
  (bucketPick_own v xs base w hv hx hb0 hsz).mono fun _ _ ⟨v', h1, h2, h3⟩ => ⟨v', h1, RdC.of_owns h2, h3⟩
end Go.Proofs.Yteibgcmpkgilfaa
