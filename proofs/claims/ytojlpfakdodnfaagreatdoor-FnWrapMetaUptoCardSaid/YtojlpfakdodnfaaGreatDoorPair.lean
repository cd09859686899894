/- Pairs of pointers to names and values: dto.Of, GetName, GetValue; sort.Sort over LabelPairSorter. -/
import Derived.Test.YtojlpfakdodnfaaGreatDoorNew2
import Derived.Test.YtojlpfakdodnfaaGreatDoorSrt
import Derived.Test.YtojlpfakdodnfaaGreatDoorRng
import Derived.BigQuiet
import Derived.RegionTactic
import Derived.Shelf.GgSortMore.SortSort
set_option linter.unusedVariables false
set_option linter.unusedSimpArgs false
namespace Go.Proofs.YtojlpfakdodnfaaGreatDoor
open Go.RowKit Go.Maps Go.Sort Go.Shelf Go.Lib

set_option maxRecDepth 100000 in
theorem ofK (s : ByteArray) (w : World) : Calls Tryz.prog 61 #[.string s] w
    fun e w' => e = .returned (.pointer (some ⟨w.heap.size, 0, none⟩)) ∧ w' = w.alloc (.cells #[.string s] 9) := by
  go_enter Tryz.func61, Tryz.ntmps61
  go_wp2_with fail
  go_ret
  exact ⟨rfl, rfl⟩
theorem PairAt.chg {S : Nat → Prop} {w x : World} {p : Value} {e : Ent} (h : PairAt w p e) (hc : Chg S w x)
    (hS : ∀ b cs T fr, S b → w.heap[b]? = some (.cells cs T fr) → T ≠ 106 ∧ T ≠ 9) : PairAt x p e := by
  obtain ⟨b, bn, bv, h1, h2, h3, h4⟩ := h
  exact ⟨b, bn, bv, h1, hc.obj h2 (fun h => (hS _ _ _ _ h h2).1 rfl), hc.obj h3 (fun h => (hS _ _ _ _ h h3).2 rfl), hc.obj h4 (fun h => (hS _ _ _ _ h h4).2 rfl)⟩
theorem PairAt.below {w x : World} {p : Value} {e : Ent} (h : PairAt w p e) (hb : Below w.heap.size w x) : PairAt x p e := h.chg (Chg.of_below hb Non) (fun _ _ _ _ h => h.elim)
set_option maxRecDepth 100000 in
theorem getName (p : Value) (x : Ent) (w : World) (h : PairAt w p x) : Calls Tryz.prog 51 #[p] w fun e w' => e = .returned (.string x.1) ∧ w = w' := by
  obtain ⟨b, bn, bv, rfl, h2, h3, h4⟩ := h
  have c1 : w.cell? ⟨b, 0, none⟩ = some (.pointer (some ⟨bn, 0, none⟩)) := by rw [Lib.cell_of_heap h2]; rfl
  have c2 : w.cell? ⟨bn, 0, none⟩ = some (.string x.1) := by rw [Lib.cell_of_heap h3]; rfl
  clear h2 h3 h4
  go_enter Tryz.func51, Tryz.ntmps51
  go_wp2_with fail
  go_ret
  exact ⟨rfl, rfl⟩
set_option maxRecDepth 100000 in
theorem getValue (p : Value) (x : Ent) (w : World) (h : PairAt w p x) : Calls Tryz.prog 52 #[p] w fun e w' => e = .returned (.string x.2) ∧ w = w' := by
  obtain ⟨b, bn, bv, rfl, h2, h3, h4⟩ := h
  have c1 : w.cell? ⟨b, 1, none⟩ = some (.pointer (some ⟨bv, 0, none⟩)) := by rw [Lib.cell_of_heap h2]; rfl
  have c2 : w.cell? ⟨bv, 0, none⟩ = some (.string x.2) := by rw [Lib.cell_of_heap h4]; rfl
  clear h2 h3 h4
  go_enter Tryz.func52, Tryz.ntmps52
  go_wp2_with fail
  go_ret
  exact ⟨rfl, rfl⟩

/-- A pair that lies in w. -/
def PP (w : World) : Type := { z : Nat × Ent // PairAt w (.pointer (some ⟨z.1, 0, none⟩)) z.2 }
def ppV {w : World} (z : PP w) : Value := .pointer (some ⟨z.1.1, 0, none⟩)
def ppLt {w : World} (a b : PP w) : Bool := decide (bs a.1.2.1 < bs b.1.2.1)
theorem ppSwo (w : World) : SWO (ppLt (w := w)) where
  irrefl x := decide_eq_false (lt_irr _)
  trans x y z h1 h2 := decide_eq_true (lt_tr (of_decide_eq_true h1) (of_decide_eq_true h2))
  ntrans x y z h1 h2 := decide_eq_false fun h => by
    have h1 := of_decide_eq_false h1
    have h2 := of_decide_eq_false h2
    rcases lt_tri (bs x.1.2.1) (bs y.1.2.1) with k | k | k
    · exact h1 k
    · rw [k] at h; exact h2 h
    · exact h2 (lt_tr k h)
theorem lpLess_reached (p : Option Addr) (n c : Nat) : Reaches Tryz.prog 108 (.slice p n c) "Less" 135 := ⟨fun _ => by kernel_rfl, enters_of Tryz.func135 (by kernel_rfl) rfl⟩
theorem lpSwap_reached (p : Option Addr) (n c : Nat) : Reaches Tryz.prog 108 (.slice p n c) "Swap" 136 := ⟨fun _ => by kernel_rfl, enters_of Tryz.func136 (by kernel_rfl) rfl⟩
theorem lpLen_reached (p : Option Addr) (n c : Nat) : Reaches Tryz.prog 108 (.slice p n c) "Len" 134 := ⟨fun _ => by kernel_rfl, enters_of Tryz.func134 (by kernel_rfl) rfl⟩
set_option maxRecDepth 100000 in
theorem lpLen (p : Option Addr) (n c : Nat) (W : World) : LenM Tryz.prog 134 (.slice p n c) n W := by
  unfold LenM
  go_enter Tryz.func134, Tryz.ntmps134
  go_wp2_with fail
  go_ret
  exact ⟨rfl, 0, rfl⟩
set_option maxHeartbeats 2000000 in
set_option maxRecDepth 100000 in
theorem lpLess1 (blk c size : Nat) (W : World) (i j : Nat) (hi : i < size) (hj : j < size) (hsz : size < 4611686018427387904) (p q : Value) (x y : Ent) (ci : W.cell? ⟨blk, i, none⟩ = some p) (cj : W.cell? ⟨blk, j, none⟩ = some q)
    (hx : ∀ n, PairAt (W.drewN n) p x) (hy : ∀ n, PairAt (W.drewN n) q y) :
    Calls Tryz.prog 135 #[.slice (some ⟨blk, 0, none⟩) size c, .int .i64 i, .int .i64 j] W fun e w' => e = .returned (.bool (decide (bs x.1 < bs y.1))) ∧ ∃ q, w' = W.drewN q := by
  obtain ⟨b1, n1, v1, rfl, g1, g2, g3⟩ := hx 0
  obtain ⟨b2, n2, v2, rfl, k1, k2, k3⟩ := hy 0
  obtain ⟨nm, HN1, HN2, HG⟩ : ∃ nm : Nat → ByteArray, Hid (nm b1 = x.1) ∧ Hid (nm b2 = y.1) ∧ Hid (∀ n b, (b = b1 ∨ b = b2) → Calls Tryz.prog 51 #[.pointer (some ⟨b, 0, none⟩)] (W.drewN n) fun e w' => e = .returned (.string (nm b)) ∧ (W.drewN n) = w') := by
    refine ⟨fun b => if b = b1 then x.1 else y.1, Lib.hid (if_pos rfl), Lib.hid ?_, Lib.hid fun n b hb => ?_⟩
    · by_cases h : b2 = b1
      · subst h
        show (if b2 = b2 then x.1 else y.1) = y.1
        rw [if_pos rfl]
        rw [g1] at k1
        injection k1 with k1
        injection k1 with k1
        have e1 : Value.pointer (some ⟨n1, 0, none⟩) = .pointer (some ⟨n2, 0, none⟩) := by
          have := congrArg (fun a => a[0]?) k1
          simpa using this
        injection e1 with e1
        injection e1 with e1
        injection e1 with e1
        subst e1
        rw [g2] at k2
        injection k2 with k2
        injection k2 with k2
        have := congrArg (fun a => a[0]?) k2
        simpa using this
      · exact if_neg h
    · show Calls _ _ _ _ fun e w' => e = .returned (.string (if b = b1 then x.1 else y.1)) ∧ _
      rcases hb with rfl | rfl
      · rw [if_pos rfl]; exact getName _ x _ (hx n)
      · by_cases h : b = b1
        · subst h; rw [if_pos rfl]; exact getName _ x _ (hx n)
        · rw [if_neg h]; exact getName _ y _ (hy n)
  rw [← HN1.out, ← HN2.out]
  clear g1 g2 g3 k1 k2 k3
  clear hx hy
  go_enter Tryz.func135, Tryz.ntmps135
  go_wp2_with fail
  go_quiet ((go_at_call 51; exact qsame (HG.out _ _ (by first | exact .inl rfl | exact .inr rfl))))
  go_wp2_with fail
  go_ret
  exact ⟨by show Ending.returned (.bool (Op.bytesLess (nm b1).toList (nm b2).toList)) = _; rw [Lib.toList_data, Lib.toList_data, bytesLess_eq]; rfl, nq, rfl⟩
set_option maxHeartbeats 2000000 in
set_option maxRecDepth 100000 in
theorem lpSwap1 (blk c size : Nat) (W : World) (x y : Nat) (i j : Nat) (hi : i < size) (hj : j < size) (_hsz : size < 4611686018427387904)
    (ci : W.cell? ⟨blk, i, none⟩ = some (.pointer (some ⟨x, 0, none⟩))) (cj : W.cell? ⟨blk, j, none⟩ = some (.pointer (some ⟨y, 0, none⟩))) (fi : W.frozen? ⟨blk, i, none⟩ = false) (fj : W.frozen? ⟨blk, j, none⟩ = false) :
    Calls Tryz.prog 136 #[.slice (some ⟨blk, 0, none⟩) size c, .int .i64 i, .int .i64 j] W fun e w' => e = .returned (.tuple #[]) ∧ ∃ q, w' = ((W.setCell ⟨blk, i, none⟩ (.pointer (some ⟨y, 0, none⟩))).setCell ⟨blk, j, none⟩ (.pointer (some ⟨x, 0, none⟩))).drewN q := by
  obtain ⟨v', hy'⟩ := cell?_setCell_some (w := W) (p := ⟨blk, i, none⟩) (x := .pointer (some ⟨y, 0, none⟩)) (q := ⟨blk, j, none⟩) cj
  go_enter Tryz.func136, Tryz.ntmps136
  go_wp2_with fail
  go_region
  all_goals (try go_wp2)
  all_goals go_end0
  all_goals exact ⟨rfl, 1, rfl⟩

section
variable {α : Type} [Inhabited α] {enc : α → Value}
theorem heap_sortedG {w : World} {g n : Nat} {os : Array Obj} {cur : Array Value} {e : TypeId} {fr : Nat × Nat} (d : Array α) (hb : w.heap[g]? = some (.cells cur e fr)) :
    (grow (putRow enc (Sort.ahead w n) g 0 d) os).heap[g]? = some (.cells (putCells enc 0 d cur) e fr) := by
  have hg : g < w.heap.size := (Array.getElem?_eq_some_iff.1 hb).1
  rw [heap_grow_old _ _ (by simpa using hg)]
  simp [putRow, mapBlock, Sort.ahead, Array.getElem?_modify, hb, onCells]
theorem grownBy_sortedG {w : World} {g n : Nat} {os : Array Obj} (d : Array α) : w.grownBy (grow (putRow enc (Sort.ahead w n) g 0 d) os) (some g) := by
  refine ⟨rfl, rfl, rfl, by simp, fun k hk hne => ?_⟩
  rw [heap_grow_old _ _ (by simpa using hk)]
  have : g ≠ k := fun e => hne (by rw [e])
  simp [putRow, mapBlock, Sort.ahead, Array.getElem?_modify, this]
theorem take_putCellsG (cur : Array Value) (ts : List α) (h : ts.length ≤ cur.size) : (putCells enc 0 ts.toArray cur).toList.take ts.length = ts.map enc := by
  apply List.ext_getElem?
  intro j
  by_cases hj : j < ts.length
  · rw [List.getElem?_take_of_lt hj, Array.getElem?_toList]
    simp [putCells, hj, show j < cur.size by omega]
  · rw [List.getElem?_take_eq_none (by omega), List.getElem?_eq_none (by simp; omega)]
theorem ownsRow_sortedG {w : World} {base g cap n m : Nat} {e : TypeId} {os : Array Obj} {cur : Array Value} {ts : List α} (hl : ts.length = m) (hbase : base ≤ g) (hb : w.heap[g]? = some (.cells cur e (0, 0)))
    (h1 : m ≤ cap) (h2 : cap ≤ maxLen) (h3 : cur.size = cap * 1) :
    (grow (putRow enc (Sort.ahead w n) g 0 ts.toArray) os).ownsRow base e 1 (.slice (some ⟨g, 0, none⟩) m cap) m (ts.map enc) :=
  ⟨by simp [hl], .inr ⟨g, cap, _, rfl, hbase, heap_sortedG _ hb, h1, h2, by simp [putCells, h3], by rw [Nat.mul_one, ← hl]; exact take_putCellsG cur ts (by omega)⟩⟩
theorem holds_of_blockG {w : World} {g : Nat} {cur : Array Value} {e : TypeId} {ss : List α} (hb : w.heap[g]? = some (.cells cur e (0, 0))) (ht : cur.toList.take ss.length = ss.map enc) : Holds enc w g 0 ss.toArray := by
  intro j hj
  have hj' : j < ss.length := by simpa using hj
  refine ⟨?_, by simp [World.frozen?, hb]⟩
  have h1 : (cur.toList.take ss.length)[j]? = (ss.map enc)[j]? := by rw [ht]
  rw [List.getElem?_take_of_lt hj'] at h1
  simp only [World.cell?, hb, Nat.zero_add]
  simp only [Option.isSome_none, Bool.false_eq_true, if_false]
  rw [← Array.getElem?_toList, h1]
  simp [hj']
end

theorem pp_sortWorld {w : World} {L : Nat} {cs : Array Value} (hL : w.heap[L]? = some (.cells cs 86 (0, 0))) {p : Value} {x : Ent} (h : PairAt w p x) (m : Nat) {α : Type} [Inhabited α] (enc : α → Value) (dk : Array α) (os : Array Obj) (n : Nat) :
    PairAt ((sortWorld enc w L 0 m dk os).drewN n) p x := by
  have hc : Chg (fun i => i = L) w ((sortWorld enc w L 0 m dk os).drewN n) := ((Chg.refl (fun i => i = L) w).grown (grownBy_sortedG (enc := enc) (n := m) (os := os) dk) (fun q hq => by injection hq with hq; exact .inl hq.symm)).drewN n
  refine h.chg hc fun b cs' T fr hb hcell => ?_
  subst hb
  rw [hL] at hcell
  injection hcell with hcell
  injection hcell with _ h2
  rw [← h2]
  exact ⟨by decide, by decide⟩

def SaidS (ps : List (Nat × Ent)) (B L cap : Nat) (w w' : World) (e : Ending) : Prop := e = .returned (.tuple #[]) ∧ ∃ ps' : List (Nat × Ent), Hid (ps'.Perm ps ∧ ps'.Pairwise fun a b => ¬ bs b.2.1 < bs a.2.1) ∧
        w'.ownsRow B 86 1 (.slice (some ⟨L, 0, none⟩) ps.length cap) ps.length (ps'.map fun z => .pointer (some ⟨z.1, 0, none⟩)) ∧ Chg (fun i => i = L) w w'
set_option maxHeartbeats 1000000 in
/-- sort.Sort over the pairs: the row holds them by rising names. -/
theorem sortPairs {B L cap : Nat} (ps : List (Nat × Ent)) (w : World) (hp : ∀ z ∈ ps, PairAt w (.pointer (some ⟨z.1, 0, none⟩)) z.2)
    (h : w.ownsRow B 86 1 (.slice (some ⟨L, 0, none⟩) ps.length cap) ps.length (ps.map fun z => .pointer (some ⟨z.1, 0, none⟩))) (hn : ps.length ≤ 281474976710656) :
    Calls Tryz.prog 62 #[.iface 108 (.slice (some ⟨L, 0, none⟩) ps.length cap)] w
      fun e w' => SaidS ps B L cap w w' e := by
  rcases h.2 with ⟨hnil, _⟩ | ⟨g, cap', cur, e1, hbase, hb, h1, h2, h3, h4⟩
  · cases hnil
  injection e1 with e1 e2 e3
  injection e1 with e1
  injection e1 with e1
  subst e1 e3
  by_cases htiny : ps.length ≤ 1
  · refine (Tryz.sort_Sort_tiny (α := Nat) 108 _ _ (lpLen_reached _ _ _) ps.length htiny w (lpLen _ _ _ _)).mono ?_
    rintro e w' ⟨rfl, q, rfl⟩
    refine ⟨rfl, ps, Lib.hid ⟨List.Perm.refl _, ?_⟩, (Chg.refl Non w |>.drewN q).row h (fun q _ h => h), (Chg.refl _ w).drewN q⟩
    match ps, htiny with
    | [], _ => exact List.Pairwise.nil
    | [a], _ => exact List.pairwise_singleton _ _
  · obtain ⟨z0, hz0⟩ : ∃ z0, z0 ∈ ps := by
      match ps, htiny with
      | a :: r, _ => exact ⟨a, List.mem_cons_self ..⟩
    haveI : Inhabited (PP w) := ⟨⟨z0, hp z0 hz0⟩⟩
    let qs : List (PP w) := ps.attach.map fun z => ⟨z.1, hp z.1 z.2⟩
    have hqs : qs.map (fun z : PP w => z.1) = ps := by
      have h1 : ∀ l : List { z // z ∈ ps }, (l.map (fun z => (⟨z.1, hp z.1 z.2⟩ : PP w))).map (fun z : PP w => z.1) = l.map Subtype.val := by
        intro l
        induction l with
        | nil => rfl
        | cons a l ih => exact congrArg (a.1 :: ·) ih
      exact (h1 ps.attach).trans (List.attach_map_subtype_val ps)
    have hql : qs.length = ps.length := by rw [← hqs, List.length_map]
    have hqv : qs.map ppV = ps.map fun z => .pointer (some ⟨z.1, 0, none⟩) := by
      conv => rhs; rw [← hqs, List.map_map]
      rfl
    have hL := (Array.getElem?_eq_some_iff.1 hb).1
    have hH : Holds (ppV (w := w)) w L 0 qs.toArray := holds_of_blockG hb (by rw [hqv, hql]; simpa using h4)
    have hS := Tryz.sort_Sort_sorted 108 (.slice (some ⟨L, 0, none⟩) ps.length cap) _ _ _ (lpLen_reached _ _ _) (lpLess_reached _ _ _) (lpSwap_reached _ _ _) (ppV (w := w)) ppLt (ppSwo w) L 0 qs.toArray (by simp [hql]; omega) (by simp [hql]; omega) w
      (by simp only [List.size_toArray, hql]; exact lpLen _ _ _ _)
      (by
        intro m os dk hs i j hi hj
        simp only [List.size_toArray, hql] at hi hj hs
        have H := holds_sortWorld (ppV (w := w)) w L 0 m qs.toArray dk os hL hH (by simp [hs, hql])
        have ci := (H i (by omega)).1
        have cj := (H j (by omega)).1
        rw [Nat.zero_add] at ci cj
        exact lpLess1 L cap ps.length _ i j hi hj (by omega) _ _ dk[i]!.1.2 dk[j]!.1.2 ci cj (fun n => pp_sortWorld hb dk[i]!.2 m _ dk os n) (fun n => pp_sortWorld hb dk[j]!.2 m _ dk os n))
      (by
        intro W dk H hs i j hi hj
        simp only [List.size_toArray, hql] at hi hj hs
        have ci := H i (by omega)
        have cj := H j (by omega)
        rw [Nat.zero_add] at ci cj ⊢
        rw [Nat.zero_add]
        exact lpSwap1 L cap ps.length W dk[i]!.1.1 dk[j]!.1.1 i j hi hj (by omega) ci.1 cj.1 ci.2 cj.2)
      hH hL
    refine hS.mono ?_
    rintro e w' ⟨rfl, d', n, os, hP, hSo, rfl⟩
    obtain ⟨hsz, _, hperm⟩ := hP
    have hsz2 : d'.toList.length = ps.length := by rw [Array.length_toList, hsz]; simp [hql]
    have hpm : d'.toList.Perm qs := by
      have e1 : d'.extract 0 qs.toArray.size = d' := by rw [← hsz]; exact Array.extract_size
      have e2 : qs.toArray.extract 0 qs.toArray.size = qs.toArray := Array.extract_size
      rw [e1, e2] at hperm
      simpa using hperm
    refine ⟨rfl, d'.toList.map (fun z => z.1), Lib.hid ⟨?_, ?_⟩, ?_, (Chg.refl (fun i => i = L) w).grown (grownBy_sortedG (enc := ppV (w := w)) (n := n) (os := os) d') (fun q hq => by injection hq with hq; exact .inl hq.symm)⟩
    · rw [← hqs]; exact hpm.map _
    · rw [List.pairwise_map, List.pairwise_iff_getElem]
      intro i j hi hj hij
      have hi' : i < d'.size := by simpa using hi
      have hj' : j < d'.size := by simpa using hj
      have := hSo i j (Nat.zero_le _) hij (by rw [← hsz]; exact hj')
      rw [getElem!_pos d' i hi', getElem!_pos d' j hj'] at this
      have := of_decide_eq_false this
      simpa using this
    · rw [List.map_map]
      exact ownsRow_sortedG (ts := d'.toList) (enc := ppV (w := w)) hsz2 hbase hb h1 h2 h3
/-- A sorted list of pairs with the names and values of fit is fit. -/
theorem sorted_fit {l : List Ent} {zs zs' : List Ent} (hp : zs'.Perm zs) (hs : zs'.Pairwise fun a b => ¬ bs b.1 < bs a.1) (hnd : (zs.map (·.1)).Nodup) (hm : ∀ x, x ∈ zs ↔ x ∈ fit l) : zs' = fit l := by
  have h1 : Srt zs' := by
    have hn : (zs'.map (·.1)).Nodup := (hp.map _).nodup_iff.2 hnd
    unfold List.Nodup at hn
    rw [List.pairwise_map] at hn
    unfold Srt
    refine (hs.and hn).imp ?_
    rintro a b ⟨h, hne⟩
    rcases lt_tri (bs a.1) (bs b.1) with k | k | k
    · exact k
    · exact absurd (bs_inj k) hne
    · exact absurd k h
  exact srt_ext h1 (fit_srt l) fun x => by rw [hp.mem_iff, hm]
theorem row_ne_desc {w : World} {B L n cap P : Nat} {xs : List Value} {nm hp un ps cl id dm er : Value} (h : w.ownsRow B 86 1 (.slice (some ⟨L, 0, none⟩) n cap) n xs) (hD : DB w P nm hp un ps cl id dm er) : L ≠ P := by
  rcases h.2 with ⟨h1, _⟩ | ⟨g, c, cur, e1, _, hb, _⟩
  · cases h1
  · injection e1 with e1
    injection e1 with e1
    injection e1 with e1
    subst e1
    intro e
    subst e
    have hD : w.heap[L]? = _ := hD
    rw [hb] at hD
    injection hD with hD
    injection hD with _ h2
    exact absurd h2 (by decide)
/-- Pairs are not what a row of pointers, or a descriptor, is. -/
theorem pairs_stay {w x : World} {B L n cap P : Nat} {xs : List Value} {nm hp un ps cl id dm er : Value} (h : w.ownsRow B 86 1 (.slice (some ⟨L, 0, none⟩) n cap) n xs) (hD : DB w P nm hp un ps cl id dm er)
    (hc : Chg (fun i => i = P ∨ i = L) w x) {p : Value} {e : Ent} (hp : PairAt w p e) : PairAt x p e := by
  refine hp.chg hc fun b cs T fr hb hcell => ?_
  rcases hb with rfl | rfl
  · have hD : w.heap[b]? = _ := hD
    rw [hD] at hcell
    injection hcell with hcell
    injection hcell with _ h2
    rw [← h2]
    exact ⟨by decide, by decide⟩
  · rcases h.2 with ⟨h1, _⟩ | ⟨g, c, cur, e1, _, hb, _⟩
    · cases h1
    · injection e1 with e1
      injection e1 with e1
      injection e1 with e1
      subst e1
      rw [hb] at hcell
      injection hcell with hcell
      injection hcell with _ h2
      rw [← h2]
      exact ⟨by decide, by decide⟩
theorem pairNew1 (w : World) (n v : ByteArray) (o : Obj) : PairAt ((((w.alloc (.cells #[.string n] 9)).alloc (.cells #[.string v] 9)).alloc (.cells #[.pointer (some ⟨w.heap.size, 0, none⟩), .pointer (some ⟨w.heap.size + 1, 0, none⟩)] 106)).alloc o) (.pointer (some ⟨w.heap.size + 1 + 1, 0, none⟩)) (n, v) := by
  have e1 : (w.alloc (.cells #[.string n] 9)).heap.size = w.heap.size + 1 := by simp
  have e2 : ((w.alloc (.cells #[.string n] 9)).alloc (.cells #[.string v] 9)).heap.size = w.heap.size + 1 + 1 := by simp
  have e3 : (((w.alloc (.cells #[.string n] 9)).alloc (.cells #[.string v] 9)).alloc (.cells #[.pointer (some ⟨w.heap.size, 0, none⟩), .pointer (some ⟨w.heap.size + 1, 0, none⟩)] 106)).heap.size = w.heap.size + 1 + 1 + 1 := by simp
  refine ⟨_, w.heap.size, w.heap.size + 1, rfl, ?_, ?_, ?_⟩
  · rw [Below.heap_alloc _ _ _ (by rw [e3]; omega), ← e2]; exact heap_alloc_new _ _
  · rw [Below.heap_alloc _ _ _ (by rw [e3]; omega), Below.heap_alloc _ _ _ (by rw [e2]; omega), Below.heap_alloc _ _ _ (by rw [e1]; omega)]; exact heap_alloc_new _ _
  · rw [Below.heap_alloc _ _ _ (by rw [e3]; omega), Below.heap_alloc _ _ _ (by rw [e2]; omega), ← e1]; exact heap_alloc_new _ _
theorem pairNew2 (w : World) (n v : ByteArray) (o : Obj) : PairAt ((((w.alloc (.cells #[.string v] 9)).alloc (.cells #[.string n] 9)).alloc (.cells #[.pointer (some ⟨w.heap.size + 1, 0, none⟩), .pointer (some ⟨w.heap.size, 0, none⟩)] 106)).alloc o) (.pointer (some ⟨w.heap.size + 1 + 1, 0, none⟩)) (n, v) := by
  have e1 : (w.alloc (.cells #[.string v] 9)).heap.size = w.heap.size + 1 := by simp
  have e2 : ((w.alloc (.cells #[.string v] 9)).alloc (.cells #[.string n] 9)).heap.size = w.heap.size + 1 + 1 := by simp
  have e3 : (((w.alloc (.cells #[.string v] 9)).alloc (.cells #[.string n] 9)).alloc (.cells #[.pointer (some ⟨w.heap.size + 1, 0, none⟩), .pointer (some ⟨w.heap.size, 0, none⟩)] 106)).heap.size = w.heap.size + 1 + 1 + 1 := by simp
  refine ⟨_, w.heap.size + 1, w.heap.size, rfl, ?_, ?_, ?_⟩
  · rw [Below.heap_alloc _ _ _ (by rw [e3]; omega), ← e2]; exact heap_alloc_new _ _
  · rw [Below.heap_alloc _ _ _ (by rw [e3]; omega), Below.heap_alloc _ _ _ (by rw [e2]; omega), ← e1]; exact heap_alloc_new _ _
  · rw [Below.heap_alloc _ _ _ (by rw [e3]; omega), Below.heap_alloc _ _ _ (by rw [e2]; omega), Below.heap_alloc _ _ _ (by rw [e1]; omega)]; exact heap_alloc_new _ _
/-- dto.Of as a step of a region that draws its order. -/
theorem step_of {ops : Array Oper} {o : Oper} {a : Act} {K : Act → World → Prop} {Q : Exit → Act → World → Prop} {E : Prop} {w : World} (hgd : o.guard = none) (x : Operand) (T : TypeId)
    (ho : o.op = .call { callee := .value (.func 61), args := #[x], argTypes := #[T] }) (s : ByteArray) (hx : a.eval x = .string s)
    (h : K (a.put o.dst (.pointer (some ⟨w.heap.size, 0, none⟩))) (w.alloc (.cells #[.string s] 9))) :
    if Region.wanted o (yielded ops a.tmps) = true then Oper.wp Tryz.prog o a w K Q else E := by
  have hw : Region.wanted o (yielded ops a.tmps) = true := by simp [Region.wanted, hgd]
  rw [if_pos hw]
  unfold Oper.wp
  have hen := enters_of Tryz.func61 (by kernel_rfl) rfl
  have hrun : Sem.run Tryz.prog (callFunc 61 #[.string s]) w = .ok (.enter 61 #[.string s]) w := hen _ _
  simp only [execOp, ho, resolve, invoke, Sem.run_bind, Sem.run_pure, Result.andThen_ok, List.map_toArray, List.map_cons, List.map_nil, hx]
  have hfn : a.eval (Operand.func 61) = .func (.func 61) #[] #[] := rfl
  rw [hfn]
  simp only [Deferred.ofValue, Sem.run_pure, Result.andThen_ok, Array.append_empty, List.push_toArray, List.nil_append]
  rw [show (#[] ++ #[Value.string s] : Array Value) = #[.string s] from rfl, hrun, Oper.upon_enter]
  refine (ofK s w).mono ?_
  rintro e w' ⟨rfl, rfl⟩
  exact h
theorem rdlp_of {B L n cap : Nat} {w : World} {ps : List (Nat × Ent)} (h : w.ownsRow B 86 1 (.slice (some ⟨L, 0, none⟩) n cap) n (ps.map fun z => .pointer (some ⟨z.1, 0, none⟩))) (hp : ∀ z ∈ ps, PairAt w (.pointer (some ⟨z.1, 0, none⟩)) z.2) :
    RdLP w (.slice (some ⟨L, 0, none⟩) n cap) (ps.map (·.2)) := by
  obtain ⟨h1, h2, h3, h4, h5⟩ := row_at h
  rw [List.length_map] at h4
  refine ⟨_, cap, L, 0, by rw [List.length_map, h4], by rw [List.length_map, h4]; exact h1, h2, .inr rfl, fun i x hx => ?_⟩
  rw [List.getElem?_map] at hx
  cases hz : ps[i]? with
  | none => rw [hz] at hx; cases hx
  | some z =>
    rw [hz] at hx
    injection hx with hx
    subst hx
    refine ⟨_, ?_, hp z (List.mem_iff_getElem?.2 ⟨i, hz⟩)⟩
    rw [Nat.zero_add]
    exact h5 i _ (by rw [List.getElem?_map, hz]; rfl)
/-- The pairs that came up, sorted, are the labels. -/
theorem pairs_fit {l : List Ent} {zs ps : List (Nat × Ent)} {left : Lit → Bool} (hc : Collected (mD l) left (zs.map fun z => bs z.2.1)) (hl : ∀ kl, left kl = false) (hv : ∀ z ∈ zs, look z.2.1 (fit l) = some z.2.2)
    (hp : ps.Perm zs) (hs : ps.Pairwise fun a b => ¬ bs b.2.1 < bs a.2.1) : ps.map (·.2) = fit l := by
  refine sorted_fit (zs := zs.map (·.2)) (hp.map _) (by rw [List.pairwise_map]; exact hs) ?_ fun x => ⟨fun hx => ?_, fun hx => ?_⟩
  · have h1 := hc.1
    rw [List.map_map]
    unfold List.Nodup at h1 ⊢
    rw [List.pairwise_map] at h1 ⊢
    exact h1.imp fun hn e => hn (congrArg bs e)
  · obtain ⟨z, hz, rfl⟩ := List.mem_map.1 hx
    exact look_mem (hv z hz)
  · have h1 := coll_perm hc hl
    have h2 : bs x.1 ∈ zs.map fun z => bs z.2.1 := h1.mem_iff.2 (List.mem_map.2 ⟨x.1, List.mem_map.2 ⟨x, hx, rfl⟩, rfl⟩)
    obtain ⟨z, hz, e⟩ := List.mem_map.1 h2
    refine List.mem_map.2 ⟨z, hz, ?_⟩
    have e1 := bs_inj e
    have e2 := hv z hz
    have e3 := mem_look (fit_srt l).once hx
    rw [e1, e3] at e2
    exact Prod.ext e1 (Option.some.inj e2).symm
theorem at_new (z : World) (o : Obj) (H : Nat) (h : z.heap.size = H) : (z.alloc o).heap[H]? = some o := by subst h; exact heap_alloc_new z o
theorem row_form2 {w : World} {base : Nat} {e : TypeId} {L n cap : Nat} {xs : List Value} (h : w.ownsRow base e 1 (.slice (some ⟨L, 0, none⟩) n cap) n xs) : ∃ cur T fr, w.heap[L]? = some (.cells cur T fr) ∧ True := by
  rcases h.2 with ⟨h1, _⟩ | ⟨g, c, cur, e1, _, hb, _⟩
  · cases h1
  · injection e1 with e1
    injection e1 with e1
    injection e1 with e1
    subst e1
    exact ⟨_, _, _, hb, trivial⟩
end Go.Proofs.YtojlpfakdodnfaaGreatDoor
