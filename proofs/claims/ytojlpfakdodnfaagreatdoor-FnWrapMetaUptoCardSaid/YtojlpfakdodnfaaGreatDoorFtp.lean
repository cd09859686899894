/- FitPairs: pairs sorted by name, each name once. -/
import Derived.Test.YtojlpfakdodnfaaGreatDoorFts
import Derived.Test.YtojlpfakdodnfaaGreatDoorSpc
import Derived.Deep.RegionLaw
import Derived.Laws.OwnMore
import Derived.Sort.Walk0
import Derived.Deep.AppendLies
import Derived.Deep.DeepCutAuto
set_option linter.unusedVariables false
set_option linter.unusedSimpArgs false
namespace Go.Proofs.YtojlpfakdodnfaaGreatDoor
open Go.RowKit

theorem ins_same {p q : Ent} : ∀ {o : List Ent} {k : Nat}, (∀ j x, j < k → o[j]? = some x → bs x.1 < bs p.1) → o[k]? = some q → q.1 = p.1 → insP p o = o.set k (q.1, p.2)
  | [], k, _, hq, _ => by simp at hq
  | x :: r, 0, _, hq, he => by
    simp at hq
    subst hq
    unfold insP
    rw [if_neg (by rw [he]; exact lt_irr _), if_pos he]
    rfl
  | x :: r, k + 1, hlt, hq, he => by
    unfold insP
    rw [if_pos (hlt 0 x (Nat.succ_pos _) rfl)]
    rw [ins_same (k := k) (fun j y hj hy => hlt (j + 1) y (by omega) (by simpa using hy)) (by simpa using hq) he]
    rfl
theorem ins_mid {p : Ent} : ∀ {o : List Ent} {k : Nat}, k ≤ o.length → (∀ j x, j < k → o[j]? = some x → bs x.1 < bs p.1) → (∀ q, o[k]? = some q → ¬ bs q.1 < bs p.1 ∧ q.1 ≠ p.1) → insP p o = o.take k ++ p :: o.drop k
  | [], k, hk, _, _ => by
    have : k = 0 := by simpa using hk
    subst this
    rfl
  | x :: r, 0, _, _, hq => by
    obtain ⟨h1, h2⟩ := hq x rfl
    unfold insP
    rw [if_neg h1, if_neg h2]
    rfl
  | x :: r, k + 1, hk, hlt, hq => by
    unfold insP
    rw [if_pos (hlt 0 x (Nat.succ_pos _) rfl)]
    rw [ins_mid (k := k) (by simpa using hk) (fun j y hj hy => hlt (j + 1) y (by omega) (by simpa using hy)) (fun q hq2 => hq q (by simpa using hq2))]
    rfl
theorem run_append0 {P : Program} {w : World} (t ty e : TypeId) (i : TypeInfo) (ht : P.underlying t = some (.slice e)) (hi : P.info? e = some i) (b : Option Addr) (n cap : Nat) (q : Option Addr) (c : Nat) (hn : n ≤ cap) :
    (Builtin.append_ #[t, t] ty #[.slice b n cap, .slice q 0 c]).run P w = .ok (.slice b n cap) w := by
  cases q <;> cases b <;> simp [Builtin.append_, run_underlying ht, sizeOf, typeInfo, hi, Builtin.lenOf, Builtin.firstCells, hn, storeCells, loadCells, loadCellsFrom]
theorem step_append0 {P : Program} {ops : Array Oper} {o : Oper} {a : Act} {K : Act → World → Prop} {Q : Exit → Act → World → Prop} {E : Prop} {w : World} (hgd : o.guard = none) (s x : Operand) (t : TypeId)
    (ho : o.op = .call { callee := .builtin .append, args := #[s, x], argTypes := #[t, t] }) (e : TypeId) (i : TypeInfo) (ht : P.underlying t = some (.slice e)) (hi : P.info? e = some i)
    (b : Option Addr) (n cap : Nat) (hs : a.eval s = .slice b n cap) (q : Option Addr) (c : Nat) (hx : a.eval x = .slice q 0 c) (hn : n ≤ cap) (h : K (a.put o.dst (.slice b n cap)) w) :
    if Region.wanted o (yielded ops a.tmps) = true then Oper.wp P o a w K Q else E := by
  have hw : Region.wanted o (yielded ops a.tmps) = true := by simp [Region.wanted, hgd]
  rw [if_pos hw]
  have hrun := run_append0 (P := P) (w := w) t o.type e i ht hi b n cap q c hn
  unfold Oper.wp
  simp [execOp, ho, resolve, invoke, builtin, hs, hx, hrun, Result.andThen]
  exact h
theorem twoV_take (xs : List Ent) (k : Nat) : twoV (xs.take k) = (twoV xs).take (k * 2) := by
  induction xs generalizing k with
  | nil => simp [twoV]
  | cons x r ih =>
    cases k with
    | zero => simp [twoV]
    | succ k =>
      have := ih k
      simp only [twoV, List.take_succ_cons, List.flatMap_cons] at this ⊢
      rw [this, show (k + 1) * 2 = k * 2 + 2 by omega]
      rfl
theorem twoV_drop (xs : List Ent) (k : Nat) : twoV (xs.drop k) = (twoV xs).drop (k * 2) := by
  induction xs generalizing k with
  | nil => simp [twoV]
  | cons x r ih =>
    cases k with
    | zero => simp [twoV]
    | succ k =>
      have := ih k
      simp only [twoV, List.drop_succ_cons, List.flatMap_cons] at this ⊢
      rw [this, show (k + 1) * 2 = k * 2 + 2 by omega]
      rfl
theorem twoV_set (xs : List Ent) (k : Nat) (q : Ent) (t : ByteArray) (h : xs[k]? = some q) : twoV (xs.set k (q.1, t)) = (twoV xs).set (k * 2 + 1) (.string t) := by
  induction xs generalizing k with
  | nil => simp at h
  | cons x r ih =>
    cases k with
    | zero =>
      simp at h
      subst h
      simp [twoV]
    | succ k =>
      have := ih k (by simpa using h)
      simp only [twoV, List.set_cons_succ, List.flatMap_cons] at this ⊢
      rw [this, show (k + 1) * 2 + 1 = (k * 2 + 1) + 2 by omega]
      rfl
/-- The part of a row that a slice owns ahead of a place. -/
theorem own_take {w : World} {B g n cap size : Nat} {e : TypeId} {xs : List Value} (h : w.ownsRow B e size (.slice (some ⟨g, 0, none⟩) n cap) n xs) (k : Nat) (hk : k ≤ n) :
    w.ownsRow B e size (.slice (some ⟨g, 0, none⟩) k cap) k (xs.take (k * size)) := by
  obtain ⟨h0, ⟨h1, _⟩ | ⟨g', cap', cur, e1, h1, h2, h3, h4, h5, h6⟩⟩ := h
  · cases h1
  · injection e1 with e1 _ e3
    injection e1 with e1
    injection e1 with e1
    subst e1 e3
    have hks : k * size ≤ n * size := Nat.mul_le_mul_right _ hk
    refine ⟨by rw [List.length_take, h0]; omega, .inr ⟨g, cap, cur, rfl, h1, h2, Nat.le_trans hk h3, h4, h5, ?_⟩⟩
    rw [← h6, List.take_take, Nat.min_eq_left hks]
theorem own_shapeL {w : World} {B e size n : Nat} {v : Value} {xs : List Value} (h : w.ownsRow B e size v n xs) : ∃ a c, v = .slice a n c ∧ n ≤ c := by
  rcases h.2 with ⟨rfl, rfl⟩ | ⟨g, cap, cur, rfl, _, _, h, _⟩
  · exact ⟨_, _, rfl, Nat.le_refl _⟩
  · exact ⟨_, _, rfl, h⟩
theorem own_shape2 {w : World} {B e n : Nat} {a : Option Addr} {c : Nat} {os : List Ent} (h : w.ownsRow B e 2 (.slice a n c) n (twoV os)) : (a = none ∧ c = 0 ∧ n = 0 ∧ os = []) ∨ ∃ g, a = some ⟨g, 0, none⟩ ∧ B ≤ g ∧ g < w.heap.size := by
  obtain ⟨h0, ⟨h1, h2⟩ | ⟨g, cap, cur, e1, h1, h2, h3, h4, h5, h6⟩⟩ := h
  · injection h1 with h1 _ h3
    rw [twoV_len, h2] at h0
    exact .inl ⟨h1, h3, h2, List.eq_nil_of_length_eq_zero (by omega)⟩
  · injection e1 with e1
    exact .inr ⟨g, e1, h1, (Array.getElem?_eq_some_iff.1 h2).1⟩
theorem own_cellsE {w : World} {B e n : Nat} {a : Option Addr} {c : Nat} {os : List Ent} (h : w.ownsRow B e 2 (.slice a n c) n (twoV os)) {j : Nat} {q : Ent} (hq : os[j]? = some q) :
    ∃ g, a = some ⟨g, 0, none⟩ ∧ B ≤ g ∧ g < w.heap.size ∧ w.cell? ⟨g, j * 2, none⟩ = some (.string q.1) ∧ w.cell? ⟨g, j * 2 + 1, none⟩ = some (.string q.2) ∧ w.frozen? ⟨g, j * 2 + 1, none⟩ = false := by
  obtain ⟨h0, ⟨h1, h2⟩ | ⟨g, cap, cur, e1, h1, h2, h3, h4, h5, h6⟩⟩ := h
  · rw [twoV_len] at h0
    have := (List.getElem?_eq_some_iff.1 hq).1
    omega
  · injection e1 with e1 _ e3
    rw [twoV_len] at h0
    have hj := (List.getElem?_eq_some_iff.1 hq).1
    obtain ⟨g1, g2⟩ := twoV_get os j q hq
    rw [← h6, List.getElem?_take_of_lt (by omega), Array.getElem?_toList] at g1 g2
    exact ⟨g, e1, h1, (Array.getElem?_eq_some_iff.1 h2).1, by rw [Lib.cell_of_heap h2]; exact g1, by rw [Lib.cell_of_heap h2]; exact g2, Lib.frozen_of_heap h2 _⟩
theorem row_cells {w : World} {B e n g c size : Nat} {xs : List Value} (h : w.ownsRow B e size (.slice (some ⟨g, 0, none⟩) n c) n xs) : ∀ j u, xs[j]? = some u → w.cell? ((⟨g, 0, none⟩ : Addr).add j) = some u := by
  intro j u hu
  obtain ⟨h0, ⟨h1, h2⟩ | ⟨g', cap, cur, e1, h1, h2, h3, h4, h5, h6⟩⟩ := h
  · cases h1
  · injection e1 with e1 _ e3
    injection e1 with e1
    injection e1 with e1
    subst e1
    have hj := (List.getElem?_eq_some_iff.1 hu).1
    rw [← h6, List.getElem?_take_of_lt (by omega), Array.getElem?_toList] at hu
    have e : (⟨g, 0, none⟩ : Addr).add j = ⟨g, j, none⟩ := by unfold Addr.add; split <;> simp_all
    rw [e, Lib.cell_of_heap h2]
    exact hu
theorem row_cells_off {w : World} {B e n g c size : Nat} {xs : List Value} (h : w.ownsRow B e size (.slice (some ⟨g, 0, none⟩) n c) n xs) (k : Nat) : ∀ j u, (xs.drop k)[j]? = some u → w.cell? ((⟨g, k, none⟩ : Addr).add j) = some u := by
  intro j u hu
  rw [List.getElem?_drop] at hu
  have := row_cells h (k + j) u hu
  have e1 : (⟨g, 0, none⟩ : Addr).add (k + j) = ⟨g, k + j, none⟩ := by unfold Addr.add; split <;> simp_all
  have e2 : (⟨g, k, none⟩ : Addr).add j = ⟨g, k + j, none⟩ := by unfold Addr.add; split <;> simp_all
  rw [e2, ← e1]
  exact this
theorem info_spr : (Tryz.prog.info? 53).map (fun i => (i.zero, i.size, i.bytes)) = some (some (.agg #[.string ⟨#[]⟩, .string ⟨#[]⟩]), 2, 32) := by kernel_rfl
theorem twoV_one (xs : List Ent) : ∀ u ∈ twoV xs, u.oneCell' = true := by
  intro u hu
  unfold twoV at hu
  obtain ⟨x, _, hx⟩ := List.mem_flatMap.1 hu
  rcases List.mem_cons.1 hx with rfl | hx
  · rfl
  · rw [List.mem_singleton.1 hx]; rfl
def SaidPO (xs : List Ent) (w w' : World) (e : Ending) : Prop := (∃ v, e = .returned v ∧ w'.ownsRow w.heap.size 53 2 v xs.length (twoV xs)) ∧ Below w.heap.size w w'
theorem lessB (a b : ByteArray) : Op.bytesLess a.toList b.toList = decide (bs a < bs b) := by rw [Lib.toList_data, Lib.toList_data, bytesLess_eq]; rfl

set_option maxHeartbeats 6400000 in
set_option maxRecDepth 100000 in
theorem fitPairsO (v : Value) (l : List Ent) (w : World) (hv : RdE w v l) (hl : l.length ≤ 4194304) :
    Calls Tryz.prog 35 #[v] w fun e w' => SaidPO (fit l) w w' e := by
  obtain ⟨a, cap, b, off, rfl, hcap, hmx, ha, hc⟩ := hv
  unfold maxLen at hmx
  have HC := Lib.hid hc
  clear hc
  obtain ⟨z0, hzi, hzz, hzs, hzb⟩ := info_parts info_spr
  go_enter Tryz.func35, Tryz.ntmps35
  go_wp2_with fail
  go_loopw [3, 4] (fun o i wx => ∃ k : Nat, k ≤ l.length ∧ i = .int .i64 (k : Int) ∧ wx.ownsRow w.heap.size 53 2 o (fit (l.take k)).length (twoV (fit (l.take k))) ∧ Below w.heap.size w wx) (fun _ i _ => l.length - (intOf i).toNat)
  case atStart => exact ⟨0, Nat.zero_le _, rfl, ⟨rfl, .inl ⟨rfl, rfl⟩⟩, Below.refl _ _⟩
  case round =>
    obtain ⟨k, hk, rfl, hown, hbr⟩ := hrel
    by_cases hlt : k < l.length
    · obtain rfl : a = some ⟨b, off, none⟩ := by
        rcases ha with h | h
        · rw [h] at hlt; exact absurd hlt (Nat.not_lt_zero _)
        · exact h
      have hlti : (k : Int) < (l.length : Int) := by omega
      obtain ⟨c1, c2⟩ := HC.out k l[k] (List.getElem?_eq_getElem hlt)
      have HPC : Hid (∀ z, Below w.heap.size w z → z.cell? ⟨b, off + k * 2, none⟩ = some (.string l[k].1) ∧ z.cell? ⟨b, off + k * 2 + 1, none⟩ = some (.string l[k].2)) :=
        Lib.hid (fun z hz => ⟨(hz.cell (p := ⟨b, off + k * 2, none⟩) (World.block_lt_of_cell? w _ c1)).trans c1, (hz.cell (p := ⟨b, off + k * 2 + 1, none⟩) (World.block_lt_of_cell? w _ c2)).trans c2⟩)
      have HBW : Hid (b < w.heap.size) := Lib.hid (World.block_lt_of_cell? w _ c1)
      have HTK : Hid (fit (l.take (k + 1)) = insP l[k] (fit (l.take k))) := Lib.hid (by rw [List.take_succ_eq_append_getElem hlt]; exact fit_snoc _ _)
      have hos : (fit (l.take k)).length ≤ 4194304 := by have := fit_len (l.take k); rw [List.length_take] at this; omega
      clear c1 c2
      generalize l[k] = p at *
      generalize fit (l.take k) = os at *
      obtain ⟨s, t⟩ := p
      obtain ⟨a0, c0, rfl, hc0⟩ := own_shapeL hown
      go_upto_block 2 with fail
      go_cut [5] (fun kv wx => ∃ j : Nat, j ≤ os.length ∧ kv = .int .i64 (j : Int) ∧ wx.ownsRow w.heap.size 53 2 (.slice a0 os.length c0) os.length (twoV os) ∧ Below w.heap.size w wx ∧ Hid (∀ i x, i < j → os[i]? = some x → bs x.1 < bs s) ∧ Hid (∀ q, os[j]? = some q → ¬ bs q.1 < bs s))
      case first =>
        --<A
        go_wp2_with fail
        go_loopw [5] (fun kv wx => ∃ j : Nat, j ≤ os.length ∧ kv = .int .i64 (j : Int) ∧ wx.ownsRow w.heap.size 53 2 (.slice a0 os.length c0) os.length (twoV os) ∧ Below w.heap.size w wx ∧ Hid (∀ i x, i < j → os[i]? = some x → bs x.1 < bs s)) (fun kv _ => os.length - (intOf kv).toNat)
        case atStart => exact ⟨0, Nat.zero_le _, rfl, hown, hbr, Lib.hid (fun i x h => absurd h (Nat.not_lt_zero _))⟩
        case round =>
          obtain ⟨j, hj, rfl, hown2, hb2, HLT⟩ := hrel
          by_cases hjl : j < os.length
          · have hjli : (j : Int) < (os.length : Int) := by omega
            have hq := List.getElem?_eq_getElem hjl
            obtain ⟨g, rfl, hBg, hgl, q1, q2, q3⟩ := own_cellsE hown2 hq
            obtain ⟨p1, p2⟩ := HPC.out _ hb2
            have HQ := Lib.hid hq
            generalize os[j] = q at *
            obtain ⟨qs, qt⟩ := q
            have e1 := lessB qs s
            have HOW := Lib.hid hown2
            clear hq q3 hown hown2
            by_cases hqs : bs qs < bs s
            · rw [decide_eq_true hqs] at e1
              have HLT2 : Hid (∀ i x, i < j + 1 → os[i]? = some x → bs x.1 < bs s) := Lib.hid (fun i x hi hx => by
                rcases Nat.lt_or_ge i j with h | h
                · exact HLT.out i x h hx
                · obtain rfl : i = j := by omega
                  rw [HQ.out] at hx
                  injection hx with hx
                  rw [← hx]; exact hqs)
              clear hqs
              go_upto_region 6 with fail
              go_quiet (fail)
              go_wp2_with fail
              go_roundw
              case rel => exact ⟨j + 1, by omega, by go_num, (Chg.of_below (below_drewN (Below.refl _ _) _) Non).row HOW.out (fun q _ h => h), below_drewN hb2 _, HLT2⟩
              case measure => simp [intOf]; omega
            · rw [decide_eq_false hqs] at e1
              have HGE : Hid (∀ q, os[j]? = some q → ¬ bs q.1 < bs s) := Lib.hid (fun q hq => by rw [HQ.out] at hq; injection hq with hq; rw [← hq]; exact hqs)
              clear hqs
              go_upto_region 6 with fail
              go_quiet (fail)
              go_wp2_with fail
              go_meet
              case rel => exact ⟨j, by omega, rfl, (Chg.of_below (below_drewN (Below.refl _ _) _) Non).row HOW.out (fun q _ h => h), below_drewN hb2 _, HLT, HGE⟩
          · have hjli : ¬ (j : Int) < (os.length : Int) := by omega
            have HGE : Hid (∀ q, os[j]? = some q → ¬ bs q.1 < bs s) := Lib.hid (fun q hq => absurd (List.getElem?_eq_some_iff.1 hq).1 hjl)
            have HOW := Lib.hid hown2
            clear hown hown2
            go_upto_region 6 with fail
            go_quiet (fail)
            go_wp2_with fail
            go_meet
            case rel => exact ⟨j, by omega, rfl, (Chg.of_below (below_drewN (Below.refl _ _) _) Non).row HOW.out (fun q _ h => h), below_drewN hb2 _, HLT, HGE⟩
        --A>
      case rest =>
        obtain ⟨j, hj, rfl, hown3, hb3, HLT, HGE⟩ := hcut
        generalize wc = wr' at *
        clear hown hbr
        obtain ⟨p1, p2⟩ := HPC.out _ hb3
        by_cases hjl : j < os.length
        · have hjli : (j : Int) < (os.length : Int) := by omega
          have hq := List.getElem?_eq_getElem hjl
          obtain ⟨g, rfl, hBg, hgl, q1, q2, q3⟩ := own_cellsE hown3 hq
          have HQ := Lib.hid hq
          have HJL := Lib.hid hjl
          generalize os[j] = q at *
          obtain ⟨qs, qt⟩ := q
          have e1 := eqB qs s
          have HOW := Lib.hid hown3
          clear hq hown3
          by_cases hqs : qs = s
          · rw [decide_eq_true hqs] at e1
            have HINS : Hid (insP (s, t) os = os.set j (qs, t)) := Lib.hid (ins_same HLT.out HQ.out hqs)
            clear hqs
            --<B
            go_upto_region 8 with fail
            go_quiet (fail)
            go_wp2_with fail
            have hrow4 := ((Chg.of_below (below_drewN (Below.refl _ wr') nq) Non).row HOW.out (fun q _ h => h))
            have hst := hrow4.stored (j * 2 + 1) (.string t)
            go_roundw
            case rel => exact ⟨k + 1, by omega, by go_num, by rw [HTK.out, HINS.out, List.length_set, twoV_set _ _ _ _ HQ.out]; exact hst.1, (below_drewN hb3 _).setCell (p := ⟨g, j * 2 + 1, none⟩) hBg _⟩
            case measure => simp [intOf]; omega
            --B>
          · rw [decide_eq_false hqs] at e1
            have HINS : Hid (insP (s, t) os = os.take j ++ (s, t) :: os.drop j) := Lib.hid (ins_mid hj HLT.out (fun q hq => ⟨HGE.out q hq, by rw [HQ.out] at hq; injection hq with hq; rw [← hq]; exact hqs⟩))
            clear hqs
            --<C
            go_upto_region 8 with fail
            go_quiet (fail)
            go_upto_region 10 with fail
            have hb5 := below_drewN hb3 nq
            have hrow5 := ((Chg.of_below (below_drewN (Below.refl _ wr') nq) Non).row HOW.out (fun q _ h => h))
            clear hb3 p1 p2 q1 q2 q3
            generalize wr'.drewN nq = w5 at *
            obtain ⟨p1, p2⟩ := HPC.out _ hb5
            have HR5 := Lib.hid hrow5
            have HB5 := Lib.hid hb5
            have hs5 := hb5.size
            have hjn : j ≤ os.length := hj
            have hjc : j ≤ c0 := Nat.le_trans hj hc0
            have hjci : (j : Int) ≤ (c0 : Int) := by omega
            have hcj : ¬ c0 = j := by have := HJL.out; omega
            have hgw5 : g < w5.heap.size := (own_cellsE hrow5 HQ.out).elim fun g' h => by have e := h.1; injection e with e; injection e with e; subst e; exact h.2.2.1
            have hjl5 := HJL.out
            clear hrow5 hb5
            go_region_law (first
              | (refine step_append_lies _ (by rfl) _ _ _ (by rfl) w.heap.size 53 z0 (.agg #[.string ⟨#[]⟩, .string ⟨#[]⟩]) 2 32 Tryz.underlying23 hzi hzz hzs hzb rfl (by omega) (.slice (some ⟨w5.heap.size, 0, none⟩) 1 1) 1 [.string s, .string t] (by rfl) (((Chg.refl Non _).drew).row (World.ownsRow_lit w5 #[.string s, .string t] 1 hs5 (by decide) rfl) (fun q _ h => h)) ⟨g, j * 2, none⟩ (os.length - j) (c0 - j) (twoV (os.drop j)) (by rfl) (by rw [twoV_len, List.length_drop]) (by rw [twoV_drop]; exact row_cells_off ((((Chg.refl Non w5).alloc _).drew).row HR5.out (fun q _ h => h)) _) (twoV_one _) (by omega) (by unfold maxLen; omega) (by omega) (by simp; omega) _ rfl ?_; intro g8 cap8 w8 ho8 hg8 hat8 hlt8
                 have hc8 : Chg (fun i => i = w5.heap.size) w5 w8 := Chg.grown (((Chg.refl (fun i => i = w5.heap.size) w5).alloc _).drew) hg8 (fun q hq => by injection hq with hq; exact .inl hq.symm)
                 have hrow8 := Lib.hid (own_take (hc8.row HR5.out (fun q hq e => by have h1 := Option.some.inj (show some g = some q from hq); have h2 : q = w5.heap.size := e; omega)) j hjn)
                 have hb8 : Below w.heap.size w w8 := HB5.out.trans (hc8.below (fun i hi => by rw [hi]; exact hs5) hs5)
                 have hs8 := hb8.size
                 clear hc8 hg8 hat8)
              | (refine step_append_lies _ (by rfl) _ _ _ (by rfl) w.heap.size 53 z0 (.agg #[.string ⟨#[]⟩, .string ⟨#[]⟩]) 2 32 Tryz.underlying23 hzi hzz hzs hzb rfl (by omega) (.slice (some ⟨g, 0, none⟩) j c0) j ((twoV os).take (j * 2)) (by rfl) hrow8.out ⟨g8, 0, none⟩ (1 + (os.length - j)) cap8 ([.string s, .string t] ++ twoV (os.drop j)) (by rfl) (by rw [List.length_append, twoV_len, List.length_drop]; simp; omega) (row_cells ho8) (twoV_one ((s, t) :: os.drop j)) (by omega) (by unfold maxLen; omega) (by omega) hs8 _ rfl ?_; intro g9 cap9 w9 ho9 hg9 hat9 hlt9
                 have hb9 := Lib.hid (hb8.grown hg9 hs8 (fun q hq => by have h1 := Option.some.inj (show some g = some q from hq); omega))
                 have ho9' := Lib.hid ho9
                 clear hg9 hat9 ho9 hb8 ho8))
            go_wp2_with fail
            go_roundw
            case rel =>
              have e1 : (os.take j ++ (s, t) :: os.drop j).length = j + (1 + (os.length - j)) := by rw [List.length_append, List.length_cons, List.length_take, List.length_drop, Nat.min_eq_left hjn]; omega
              exact ⟨k + 1, by omega, by go_num, by rw [HTK.out, HINS.out, e1, twoV_app, twoV_take]; exact ho9'.out, hb9.out⟩
            case measure => simp [intOf]; omega
            --C>
        · have hjli : ¬ (j : Int) < (os.length : Int) := by omega
          obtain rfl : j = os.length := by omega
          have HINS : Hid (insP (s, t) os = os ++ [(s, t)]) := Lib.hid (by rw [ins_mid hj HLT.out (fun q hq => by simp at hq), List.take_length, List.drop_length])
          have HOW := Lib.hid hown3
          --<D
          go_upto_region 8 with fail
          go_quiet (fail)
          go_upto_region 10 with fail
          have hb5 := below_drewN hb3 nq
          have hrow5 := ((Chg.of_below (below_drewN (Below.refl _ wr') nq) Non).row HOW.out (fun q _ h => h))
          clear hb3 p1 p2 hown3
          generalize wr'.drewN nq = w5 at *
          obtain ⟨p1, p2⟩ := HPC.out _ hb5
          have HR5 := Lib.hid hrow5
          have HB5 := Lib.hid hb5
          have hs5 := hb5.size
          clear HOW HGE HLT
          rcases own_shape2 hrow5 with ⟨rfl, rfl, h0, rfl⟩ | ⟨g, rfl, hBg, hgw5⟩
          · clear hrow5 hb5
            simp only [List.length_nil] at *
            go_region_law (first
              | (refine step_append0 (by rfl) _ _ _ (by rfl) 53 z0 Tryz.underlying23 hzi (some ⟨w5.heap.size, 0, none⟩) 1 1 (by rfl) _ _ (by rfl) (by omega) ?_)
              | (refine step_append_lies _ (by rfl) _ _ _ (by rfl) w.heap.size 53 z0 (.agg #[.string ⟨#[]⟩, .string ⟨#[]⟩]) 2 32 Tryz.underlying23 hzi hzz hzs hzb rfl (by omega) (.slice none 0 0) 0 (twoV []) (by rfl) (((((Chg.refl Non w5).alloc _).drew).row HR5.out (fun q _ h => h))) ⟨w5.heap.size, 0, none⟩ 1 1 [.string s, .string t] (by rfl) (by rfl) (World.news_of_block (cs := #[.string s, .string t]) (t := 53) (fr := (0, 0)) (show ((w5.alloc _).drew).heap[w5.heap.size]? = _ from heap_alloc_new w5 _)) (twoV_one [(s, t)]) (by omega) (by unfold maxLen; omega) (by omega) (by simp; omega) _ rfl ?_; intro g9 cap9 w9 ho9 hg9 hat9 hlt9
                 have hb9 := Lib.hid ((((HB5.out.alloc hs5 (.cells #[.string s, .string t] 53)).drew).grown hg9 (by simp; omega) (fun q hq => (row_from HR5.out q hq).1)))
                 have ho9' := Lib.hid ho9
                 clear hg9 hat9 ho9))
            go_wp2_with fail
            go_roundw
            case rel => exact ⟨k + 1, by omega, by go_num, by rw [HTK.out, HINS.out, List.length_append, twoV_app]; exact ho9'.out, hb9.out⟩
            case measure => simp [intOf]; omega
          · clear hrow5 hb5
            by_cases hcj : c0 = os.length
            · subst hcj
              go_region_law (first
                | (refine step_append0 (by rfl) _ _ _ (by rfl) 53 z0 Tryz.underlying23 hzi (some ⟨w5.heap.size, 0, none⟩) 1 1 (by rfl) _ _ (by rfl) (by omega) ?_)
                | (refine step_append_lies _ (by rfl) _ _ _ (by rfl) w.heap.size 53 z0 (.agg #[.string ⟨#[]⟩, .string ⟨#[]⟩]) 2 32 Tryz.underlying23 hzi hzz hzs hzb rfl (by omega) (.slice (some ⟨g, 0, none⟩) os.length os.length) os.length (twoV os) (by rfl) (((((Chg.refl Non w5).alloc _).drew).row HR5.out (fun q _ h => h))) ⟨w5.heap.size, 0, none⟩ 1 1 [.string s, .string t] (by rfl) (by rfl) (World.news_of_block (cs := #[.string s, .string t]) (t := 53) (fr := (0, 0)) (show ((w5.alloc _).drew).heap[w5.heap.size]? = _ from heap_alloc_new w5 _)) (twoV_one [(s, t)]) (by omega) (by unfold maxLen; omega) (by omega) (by simp; omega) _ rfl ?_; intro g9 cap9 w9 ho9 hg9 hat9 hlt9
                   have hb9 := Lib.hid ((((HB5.out.alloc hs5 (.cells #[.string s, .string t] 53)).drew).grown hg9 (by simp; omega) (fun q hq => (row_from HR5.out q hq).1)))
                   have ho9' := Lib.hid ho9
                   clear hg9 hat9 ho9))
              go_wp2_with fail
              go_roundw
              case rel => exact ⟨k + 1, by omega, by go_num, by rw [HTK.out, HINS.out, List.length_append, twoV_app]; exact ho9'.out, hb9.out⟩
              case measure => simp [intOf]; omega
            · go_region_law (first
                | (refine step_append0 (by rfl) _ _ _ (by rfl) 53 z0 Tryz.underlying23 hzi (some ⟨w5.heap.size, 0, none⟩) 1 1 (by rfl) _ _ (by rfl) (by omega) ?_)
                | (refine step_append_lies _ (by rfl) _ _ _ (by rfl) w.heap.size 53 z0 (.agg #[.string ⟨#[]⟩, .string ⟨#[]⟩]) 2 32 Tryz.underlying23 hzi hzz hzs hzb rfl (by omega) (.slice (some ⟨g, 0, none⟩) os.length c0) os.length (twoV os) (by rfl) (((((Chg.refl Non w5).alloc _).drew).row HR5.out (fun q _ h => h))) ⟨w5.heap.size, 0, none⟩ 1 1 [.string s, .string t] (by rfl) (by rfl) (World.news_of_block (cs := #[.string s, .string t]) (t := 53) (fr := (0, 0)) (show ((w5.alloc _).drew).heap[w5.heap.size]? = _ from heap_alloc_new w5 _)) (twoV_one [(s, t)]) (by omega) (by unfold maxLen; omega) (by omega) (by simp; omega) _ rfl ?_; intro g9 cap9 w9 ho9 hg9 hat9 hlt9
                   have hb9 := Lib.hid ((((HB5.out.alloc hs5 (.cells #[.string s, .string t] 53)).drew).grown hg9 (by simp; omega) (fun q hq => (row_from HR5.out q hq).1)))
                   have ho9' := Lib.hid ho9
                   clear hg9 hat9 ho9))
              go_wp2_with fail
              go_roundw
              case rel => exact ⟨k + 1, by omega, by go_num, by rw [HTK.out, HINS.out, List.length_append, twoV_app]; exact ho9'.out, hb9.out⟩
              case measure => simp [intOf]; omega
          --D>
    · have hkl : k = l.length := by omega
      subst hkl
      rw [List.take_length] at hown
      have HR := Lib.hid hown
      clear hown
      go_wp2_with fail
      go_ret
      exact ⟨⟨_, rfl, HR.out⟩, hbr⟩
theorem fitPairs (v : Value) (l : List Ent) (w : World) (hv : RdE w v l) (hl : l.length ≤ 4194304) :
    Calls Tryz.prog 35 #[v] w fun e w' => SaidP (fit l) w w' e :=
  (fitPairsO v l w hv hl).mono fun e w' ⟨⟨v', h1, h2⟩, h3⟩ => ⟨⟨v', h1, RdE.of_owns h2⟩, h3⟩
end Go.Proofs.YtojlpfakdodnfaaGreatDoor
