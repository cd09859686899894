/- QuickRatio: two maps from texts to numbers. -/
import Derived.Test.YtkbppaddghfgpaaDif28
import Derived.Maps.OwnSet
set_option linter.unusedVariables false
set_option linter.unusedSimpArgs false
namespace Go.Proofs.Ytkbppaddghfgpaa
open Go.RowKit Go.Maps

/-- The map in block B holds the numbers f. -/
def SI (w : World) (B n : Nat) (f : ByteArray → Option Int) : Prop :=
  ∃ D : DataW Unit, w.ownsMap Try.prog 9 (plainElem Try.prog 3) B n D ∧ ∀ s, Maps.has D (keyL s) = (f s).isSome ∧ D.atKey (keyL s) (.lit (.int .i64 0)) = .lit (.int .i64 ((f s).getD 0))
theorem SI.made (w : World) : SI (w.alloc (.map #[] 0)) w.heap.size 0 (fun _ => none) := ⟨_, World.ownsMap_made w _ _ _, fun s => ⟨rfl, rfl⟩⟩
theorem SI.grown {w w' : World} {B n : Nat} {f : ByteArray → Option Int} {row : Option Nat} (h : SI w B n f) (hg : w.grownBy w' row) (hne : some B ≠ row) : SI w' B n f := by
  obtain ⟨D, h1, h2⟩ := h
  exact ⟨D, h1.kept hg hne, h2⟩
theorem SI.lt {w : World} {B n : Nat} {f : ByteArray → Option Int} (h : SI w B n f) : B < w.heap.size := by
  obtain ⟨D, h1, _⟩ := h
  exact h1.lt
theorem SI.look {w : World} {B n : Nat} {f : ByteArray → Option Int} (h : SI w B n f) (s : ByteArray) (hs : s.size ≤ maxLen) : (Instr.lookup 93 (.map (some B)) (.string s) false).run Try.prog w = .ok (.int .i64 ((f s).getD 0)) w := by
  obtain ⟨D, h1, h2⟩ := h
  obtain ⟨c, hrun, hat, _⟩ := h1.lookup_int lawS Try.underlying93 Try.underlying3 (zeroInt w) (key := .string s) (kl := keyL s) (WideMaps.keyOf_string_mk Try.underlying9 hs)
  rw [(h2 s).2] at hat
  rw [hrun, (Lit.int.inj (DataW.lit.inj hat)).2]
theorem SI.look2 {w : World} {B n : Nat} {f : ByteArray → Option Int} (h : SI w B n f) (s : ByteArray) (hs : s.size ≤ maxLen) : (Instr.lookup 93 (.map (some B)) (.string s) true).run Try.prog w = .ok (.tuple #[.int .i64 ((f s).getD 0), .bool (f s).isSome]) w := by
  obtain ⟨D, h1, h2⟩ := h
  obtain ⟨v, ps, hrun, hv⟩ := h1.look_ok lawS Try.underlying93 (zeroInt w) (plainElem_int Try.underlying3 (by decide)) (key := .string s) (kl := keyL s) (WideMaps.keyOf_string_mk Try.underlying9 hs)
  obtain ⟨c, rfl, hc, _⟩ := plainElem_int_inv Try.underlying3 hv
  rw [(h2 s).2] at hc
  rw [(h2 s).1] at hrun
  have e := (Lit.int.inj (DataW.lit.inj (Prod.mk.inj hc).1)).2
  rw [hrun, e]
theorem SI.put {w : World} {B n : Nat} {f : ByteArray → Option Int} (h : SI w B n f) (s : ByteArray) (hs : s.size ≤ maxLen) (k : Int) (hk : (Lit.int .i64 k).wf = true) (hn : n < maxLen) :
    ∃ w', (Instr.mapUpdate 93 (.map (some B)) (.string s) (.int .i64 k)).run Try.prog w = .ok () w' ∧ SI w' B (n + 1) (fun y => if y = s then some k else f y) ∧ w.grownBy w' (some B) := by
  obtain ⟨D, h1, h2⟩ := h
  obtain ⟨w', hrun, h3, h4⟩ := h1.update lawS Try.underlying93 hn (key := .string s) (kl := keyL s) (WideMaps.keyOf_string_mk Try.underlying9 hs) (plainElem_int Try.underlying3 hk)
  refine ⟨w', hrun, ⟨_, h3, fun y => ?_⟩, h4⟩
  by_cases hy : y = s
  · subst hy
    dsimp only
    rw [if_pos rfl, has_put_same h1.isMap (keyL_lit y), atKey_put_same h1.isMap (keyL_lit y)]
    exact ⟨rfl, rfl⟩
  · dsimp only
    rw [if_neg hy, has_put_other (fun he => hy (keyL_inj he)), atKey_put_other (fun he => hy (keyL_inj he))]
    exact h2 y
theorem nil_counts (w : World) : (binOp BinOp.eql 93 (.map none) (.map none)).run Try.prog w = .ok (.bool true) w := by kernel_rfl

/-- The matcher with a map of numbers. -/
def Mat7 (w : World) (M : Nat) (av bv : Value) (F : Nat) : Prop :=
  ∃ x2 x3 x4 x5 x6 x8 x9, w.heap[M]? = some (.cells #[av, bv, x2, x3, x4, x5, x6, .map (some F), x8, x9] 95)
theorem Mat7.lt {w : World} {M : Nat} {av bv : Value} {F : Nat} (h : Mat7 w M av bv F) : M < w.heap.size := by
  obtain ⟨_, _, _, _, _, _, _, h⟩ := h
  exact (Array.getElem?_eq_some_iff.1 h).1
theorem Mat7.c0 {w : World} {M : Nat} {av bv : Value} {F : Nat} (h : Mat7 w M av bv F) : w.cell? ⟨M, 0, none⟩ = some av := by
  obtain ⟨_, _, _, _, _, _, _, h⟩ := h
  rw [Lib.cell_of_heap h]; rfl
theorem Mat7.c1 {w : World} {M : Nat} {av bv : Value} {F : Nat} (h : Mat7 w M av bv F) : w.cell? ⟨M, 1, none⟩ = some bv := by
  obtain ⟨_, _, _, _, _, _, _, h⟩ := h
  rw [Lib.cell_of_heap h]; rfl
theorem Mat7.c7 {w : World} {M : Nat} {av bv : Value} {F : Nat} (h : Mat7 w M av bv F) : w.cell? ⟨M, 7, none⟩ = some (.map (some F)) := by
  obtain ⟨_, _, _, _, _, _, _, h⟩ := h
  rw [Lib.cell_of_heap h]; rfl
theorem Mat7.grown {w w' : World} {M : Nat} {av bv : Value} {F : Nat} {row : Option Nat} (h : Mat7 w M av bv F) (hg : w.grownBy w' row) (hne : some M ≠ row) : Mat7 w' M av bv F := by
  have hl := h.lt
  obtain ⟨x2, x3, x4, x5, x6, x8, x9, h⟩ := h
  exact ⟨x2, x3, x4, x5, x6, x8, x9, (hg.block M hl (fun e => hne e)).trans h⟩
theorem Mat7.alloc {w : World} {M : Nat} {av bv : Value} {F : Nat} (h : Mat7 w M av bv F) (o : Obj) : Mat7 (w.alloc o) M av bv F := by
  have hl := h.lt
  obtain ⟨x2, x3, x4, x5, x6, x8, x9, h⟩ := h
  exact ⟨x2, x3, x4, x5, x6, x8, x9, (Below.heap_alloc w o M hl).trans h⟩

set_option maxHeartbeats 6400000 in
set_option maxRecDepth 100000 in
theorem mQuick {M : Nat} {a b : List ByteArray} (ap bp : Option Addr) (ac bc : Nat) (jv ju blv pv opv : Value) (w : World)
    (hMat : Mat w M (.slice ap a.length ac) (.slice bp b.length bc) jv ju blv pv opv)
    (hA : ∀ w', Below M w w' → RdC Value.string w' (.slice ap a.length ac) a) (hB : ∀ w', Below M w w' → RdC Value.string w' (.slice bp b.length bc) b)
    (hla : a.length ≤ 2147483647) (hlb : b.length ≤ 2147483647) (hsa : ∀ s ∈ a, s.size ≤ maxLen) (hsb : ∀ s ∈ b, s.size ≤ maxLen) :
    Calls Try.prog 46 #[.pointer (some ⟨M, 0, none⟩)] w
      fun e w' => e = .returned (.float .f64 (ratV (comm a b) (a.length + b.length))) ∧ (w'.cell? ⟨M, 0, none⟩ = some (.slice ap a.length ac) ∧ w'.cell? ⟨M, 1, none⟩ = some (.slice bp b.length bc)) ∧ Below M w w' := by
  have HA := Lib.hid hA
  have HB := Lib.hid hB
  have HSA := Lib.hid hsa
  have HSB := Lib.hid hsb
  have hML := hMat.lt
  have hcl := comm_le_left a b
  have HCQ := Lib.hid (comm_qs0 a b)
  have hnil := nil_counts w
  have hmm := @run_makeMap Try.prog
  have q7 : w.cell? ⟨M, 7, none⟩ = some (.map none) := by rw [Lib.cell_of_heap hMat]; rfl
  have e7 : (w.alloc (.map #[] 0)).frozen? ⟨M, 7, none⟩ = false := by
    have : (w.alloc (.map #[] 0)).heap[M]? = _ := (Below.heap_alloc w _ M hML).trans hMat
    simp [World.frozen?, this]
  have hsc : (w.setCell ⟨M, 7, none⟩ (.map (some w.heap.size))).heap.size = w.heap.size := by simp [World.setCell]
  have hM2 : Mat7 ((w.setCell ⟨M, 7, none⟩ (.map (some w.heap.size))).alloc (.map #[] 0)) M (.slice ap a.length ac) (.slice bp b.length bc) w.heap.size := ⟨_, _, _, _, _, _, _, (Below.heap_alloc _ _ M (by omega)).trans (Lib.heap_setCell_same (i := 7) hMat (.map (some w.heap.size)))⟩
  have hF2 : SI ((w.setCell ⟨M, 7, none⟩ (.map (some w.heap.size))).alloc (.map #[] 0)) w.heap.size 0 (fB b 0) := by
    rw [fB_zero]
    have := SI.made (w.setCell ⟨M, 7, none⟩ (.map (some w.heap.size)))
    rwa [hsc] at this
  have hb2 : Below M w ((w.setCell ⟨M, 7, none⟩ (.map (some w.heap.size))).alloc (.map #[] 0)) := ((Below.refl M w).setCell (p := ⟨M, 7, none⟩) (Nat.le_refl M) _).alloc (by omega) _
  go_enter Try.func46, Try.ntmps46
  go_upto_region 3 with fail
  generalize hF : w.heap.size = F at *
  have hF0 : F ≤ w.heap.size := Nat.le_of_eq hF.symm
  have hMF : M < F := by omega
  have HW := Lib.hid hF
  clear hnil q7 e7 hA hB hsa hsb hMat hF hsc
  generalize (w.setCell ⟨M, 7, none⟩ (.map (some F))).alloc (.map #[] 0) = w2 at *
  have z1 := hM2.c1
  go_wp2_with fail
  go_loopw [25] (fun v25 wr => ∃ k : Nat, k ≤ b.length ∧ v25 = .int .i64 (k : Int) ∧ SI wr F k (fB b k) ∧ Mat7 wr M (.slice ap a.length ac) (.slice bp b.length bc) F ∧ Below M w wr) (fun v25 _ => b.length - (intOf v25).toNat)
  case atStart => exact ⟨0, Nat.zero_le _, rfl, hF2, hM2, hb2⟩
  case round =>
    obtain ⟨k, hk, rfl, hFr, hMr, hbr⟩ := hrel
    clear hF2 hM2 hb2 z1
    by_cases hlt : k < b.length
    · have hlt' : (k : Int) < (b.length : Int) := by omega
      have hbc := HB.out wr hbr
      obtain ⟨bp', bcap, bb, boff, hbe, hbcc, hbmx, hbp, hbcell⟩ := hbc
      injection hbe with he1 he2 he3
      subst he1 he3
      obtain rfl : bp = some ⟨bb, boff, none⟩ := by
        rcases hbp with h | h
        · rw [h] at hlt; exact absurd hlt (Nat.not_lt_zero _)
        · exact h
      have c1 := hbcell k b[k] (List.getElem?_eq_getElem hlt)
      have hs := HSB.out b[k] (List.getElem_mem hlt)
      have z7 := hMr.c7
      have hlk := hFr.look b[k] hs
      rw [fB_get] at hlk
      have hcn := cnt_le (b.take k) b[k]
      rw [List.length_take] at hcn
      obtain ⟨w4, hput, hF4, hg4⟩ := hFr.put b[k] hs ((cnt (b.take k) b[k] : Int) + 1) (WalkArith.wf_i64 (by omega)) (by unfold maxLen; omega)
      rw [← fB_next b k hlt] at hF4
      have hM4 := hMr.grown hg4 (fun e => by injection e with e; omega)
      have hb4 := hbr.grown hg4 (Nat.le_of_lt hMr.lt) (fun q hq => by injection hq with hq; omega)
      have hw1 : IntKind.i64.wrap ((cnt (b.take k) b[k] : Int) + 1) = (cnt (b.take k) b[k] : Int) + 1 := IntWalk.i64_in _ ⟨by omega, by omega⟩
      generalize cnt (b.take k) b[k] = c at *
      generalize b[k] = s at *
      clear hbcell
      go_wp2_with fail
      go_roundw
      case rel => exact ⟨k + 1, by omega, by go_num, hF4, hM4, hb4⟩
      case measure => simp [intOf]; omega
    · have hkl : k = b.length := by omega
      have hlt' : ¬ (k : Int) < (b.length : Int) := by omega
      subst hkl
      have y0 : (wr.alloc (.map #[] 0)).cell? ⟨M, 0, none⟩ = some (.slice ap a.length ac) := (hMr.alloc _).c0
      have y0' := hMr.c0
      have hAr : SI (wr.alloc (.map #[] 0)) wr.heap.size 0 (gA a b 0) := by rw [gA_zero]; exact SI.made wr
      have hF5 := hFr.grown (World.grownBy_alloc wr (.map #[] 0) none) (by simp)
      have hM5 := hMr.alloc (.map #[] 0)
      have hb5 := hbr.alloc (Nat.le_of_lt hMr.lt) (.map #[] 0)
      have hFA : F < wr.heap.size := hFr.lt
      go_upto_region 10 with fail
      generalize hAe : wr.heap.size = A at *
      have HAe := Lib.hid hAe
      clear hAe hFr hMr hbr
      generalize wr.alloc (.map #[] 0) = w5 at *
      go_wp2_with fail
      go_loopw [6, 43] (fun v6 v43 wr => ∃ i m : Nat, i ≤ a.length ∧ v43 = .int .i64 (i : Int) ∧ v6 = .int .i64 (m : Int) ∧ m ≤ i ∧ Hid (m + qs b (a.take i) (a.drop i) = comm a b) ∧ SI wr F b.length (fB b b.length) ∧ SI wr A i (gA a b i) ∧ Mat7 wr M (.slice ap a.length ac) (.slice bp b.length bc) F ∧ Below M w wr) (fun _ v43 _ => a.length - (intOf v43).toNat)
      case atStart => exact ⟨0, 0, Nat.zero_le _, rfl, rfl, Nat.le_refl _, Lib.hid (by rw [Nat.zero_add, HCQ.out]; rfl), hF5, hAr, hM5, hb5⟩
      case round =>
        obtain ⟨i, m, hi, rfl, rfl, hmi, HQ, hFr, hAr', hMr, hbr⟩ := hrel
        clear hF5 hAr hM5 hb5 y0 y0'
        by_cases hlt2 : i < a.length
        · have hlt3 : (i : Int) < (a.length : Int) := by omega
          have hac := HA.out wr hbr
          obtain ⟨ap', acap, ab, aoff, hae, hacc, hamx, hap, hacell⟩ := hac
          injection hae with he1 he2 he3
          subst he1 he3
          obtain rfl : ap = some ⟨ab, aoff, none⟩ := by
            rcases hap with h | h
            · rw [h] at hlt2; exact absurd hlt2 (Nat.not_lt_zero _)
            · exact h
          have c1 := hacell i a[i] (List.getElem?_eq_getElem hlt2)
          have hs := HSA.out a[i] (List.getElem_mem hlt2)
          have z7 := hMr.c7
          have hlkA := hAr'.look2 a[i] hs
          have hlkF := hFr.look a[i] hs
          rw [fB_get, List.take_length] at hlkF
          have hcn := cnt_le b a[i]
          have hcm := cnt_le (a.take i) a[i]
          rw [List.length_take] at hcm
          obtain ⟨w6, hput, hA6, hg6⟩ := hAr'.put a[i] hs ((cnt b a[i] : Int) - cnt (a.take i) a[i] - 1) (WalkArith.wf_i64 (by omega)) (by unfold maxLen; omega)
          rw [← gA_next a b i hlt2] at hA6
          have hF6 := hFr.grown hg6 (fun e => by injection e with e; omega)
          have hM6 := hMr.grown hg6 (fun e => by injection e with e; omega)
          have hb6 := hbr.grown hg6 (Nat.le_of_lt hMr.lt) (fun q hq => by injection hq with hq; omega)
          have hqs : Hid (m + ((if cnt (a.take i) a[i] < cnt b a[i] then 1 else 0) + qs b (a.take (i + 1)) (a.drop (i + 1))) = comm a b) := Lib.hid (by
            have h := HQ.out
            rw [List.drop_eq_getElem_cons hlt2, qs_step, ← List.take_succ_eq_append_getElem hlt2] at h
            exact h)
          have hw1 : IntKind.i64.wrap ((cnt b a[i] : Int) - cnt (a.take i) a[i] - 1) = (cnt b a[i] : Int) - cnt (a.take i) a[i] - 1 := IntWalk.i64_in _ ⟨by omega, by omega⟩
          clear hacell HQ
          have hgs : Hid ((gA a b i a[i]).isSome = true → (gA a b i a[i]).getD 0 = (cnt b a[i] : Int) - cnt (a.take i) a[i]) := Lib.hid gA_some
          have hgn : Hid ((gA a b i a[i]).isSome = false → cnt (a.take i) a[i] = 0) := Lib.hid gA_none
          have hAr : True := trivial
          clear hAr' hFr
          generalize (gA a b i a[i]).getD 0 = gv at *
          generalize (gA a b i a[i]).isSome = gb at *
          generalize cnt (a.take i) a[i] = c at *
          generalize cnt b a[i] = d at *
          generalize a[i] = x at *
          cases gb with
          | true =>
            obtain rfl := hgs.out rfl
            by_cases hcd : c < d
            · have hcd' : (0 : Int) < (d : Int) - (c : Int) := by omega
              have hcd2 : decide ((0 : Int) < (d : Int) - (c : Int)) = true := by simp; omega
              have HQ2 : Hid (m + 1 + qs b (a.take (i + 1)) (a.drop (i + 1)) = comm a b) := Lib.hid (by have h := hqs.out; rw [if_pos hcd] at h; omega)
              clear hqs
              go_wp2_with fail
              go_roundw
              case rel => exact ⟨i + 1, m + 1, by omega, by go_num, by go_num, by omega, HQ2, hF6, hA6, hM6, hb6⟩
              case measure => simp [intOf]; omega
            · have hcd' : ¬ (0 : Int) < (d : Int) - (c : Int) := by omega
              have hcd2 : decide ((0 : Int) < (d : Int) - (c : Int)) = false := by simp; omega
              have HQ2 : Hid (m + qs b (a.take (i + 1)) (a.drop (i + 1)) = comm a b) := Lib.hid (by have h := hqs.out; rw [if_neg hcd] at h; omega)
              clear hqs
              go_wp2_with fail
              go_roundw
              case rel => exact ⟨i + 1, m, by omega, by go_num, by go_num, by omega, HQ2, hF6, hA6, hM6, hb6⟩
              case measure => simp [intOf]; omega
          | false =>
            have hc0 : c = 0 := hgn.out rfl
            subst hc0
            have e0 : (d : Int) - ((0 : Nat) : Int) - 1 = (d : Int) - 1 := by omega
            rw [e0] at hput hw1
            by_cases hcd : 0 < d
            · have hcd' : (0 : Int) < (d : Int) := by omega
              have hcd2 : decide ((0 : Int) < (d : Int)) = true := by simp; omega
              have HQ2 : Hid (m + 1 + qs b (a.take (i + 1)) (a.drop (i + 1)) = comm a b) := Lib.hid (by have h := hqs.out; rw [if_pos hcd] at h; omega)
              clear hqs
              go_wp2_with fail
              go_roundw
              case rel => exact ⟨i + 1, m + 1, by omega, by go_num, by go_num, by omega, HQ2, hF6, hA6, hM6, hb6⟩
              case measure => simp [intOf]; omega
            · have hcd' : ¬ (0 : Int) < (d : Int) := by omega
              have hcd2 : decide ((0 : Int) < (d : Int)) = false := by simp; omega
              have HQ2 : Hid (m + qs b (a.take (i + 1)) (a.drop (i + 1)) = comm a b) := Lib.hid (by have h := hqs.out; rw [if_neg hcd] at h; omega)
              have HD := Lib.hid hcd
              clear hqs hcd
              go_wp2_with fail
              go_roundw
              case rel => exact ⟨i + 1, m, by omega, by go_num, by go_num, by omega, HQ2, hF6, hA6, hM6, hb6⟩
              case measure => simp [intOf]; omega
        · have hil : i = a.length := by omega
          have hlt3 : ¬ (i : Int) < (a.length : Int) := by omega
          subst hil
          have HQ2 : Hid (comm a b = m) := Lib.hid (by have h := HQ.out; rw [List.drop_length] at h; exact h.symm)
          have hMlr := hMr.lt
          haveI : Nonempty (Ext wr) := ⟨⟨wr, Below.refl _ _⟩⟩
          have y0 : ∀ x : Ext wr, x.val.cell? ⟨M, 0, none⟩ = some (.slice ap a.length ac) := fun x => (x.beyond.cell (p := ⟨M, 0, none⟩) hMlr).trans hMr.c0
          have y1 : ∀ x : Ext wr, x.val.cell? ⟨M, 1, none⟩ = some (.slice bp b.length bc) := fun x => (x.beyond.cell (p := ⟨M, 1, none⟩) hMlr).trans hMr.c1
          have hw : IntKind.i64.wrap ((a.length : Int) + (b.length : Int)) = (a.length : Int) + (b.length : Int) := IntWalk.i64_in _ ⟨by omega, by omega⟩
          have HC : Hid (∀ x : Ext wr, Calls Try.prog 55 #[.int .i64 (m : Int), .int .i64 ((a.length : Int) + (b.length : Int))] x.val fun e w' => e = .returned (.float .f64 (ratV m (a.length + b.length))) ∧ ∃ y : Ext wr, w' = y.val) := Lib.hid (fun x => by
            have := calcRatio m (a.length + b.length) (by omega) (by omega) x.val
            rw [Int.natCast_add] at this
            exact this.mono fun e w' h => ⟨h.1, x, h.2⟩)
          have HMR := Lib.hid hMr
          have HBF := Lib.hid hbr
          clear hMr hbr hFr hAr'
          go_upto_region 20 with fail
          refine wp_region_ext (Below.refl _ wr) (by kernel_rfl) (by kernel_rfl) ?_
          repeat (go_big_quiet_step (exact HC.out _))
          refine wpQuiet_nil ?_
          rintro w6 ⟨⟨_, hb6⟩, rfl⟩
          have z0 := y0 ⟨_, hb6⟩
          have z1 := y1 ⟨_, hb6⟩
          go_wp2_with fail
          go_ret
          exact ⟨by rw [HQ2.out]; rfl, ⟨z0, z1⟩, HBF.out.trans (hb6.mono (Nat.le_of_lt hMlr))⟩
end Go.Proofs.Ytkbppaddghfgpaa
