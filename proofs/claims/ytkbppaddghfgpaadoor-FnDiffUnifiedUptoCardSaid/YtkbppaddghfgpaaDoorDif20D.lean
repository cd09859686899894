/- chainB for lists of any length: elements that stand too often are left out. -/
import Derived.Test.YtkbppaddghfgpaaDoorDif14D
import Derived.Sort.MapsRangeIn
set_option linter.unusedVariables false
set_option linter.unusedSimpArgs false
namespace Go.Proofs.YtkbppaddghfgpaaDoor
open Go.RowKit Go.Maps
open Go.ChangeShapes (lits)

def popB (b : List ByteArray) (s : ByteArray) : Bool := decide (200 ≤ b.length ∧ b.length / 100 + 1 < (idxL b s).length)
def b2jL (b : List ByteArray) (s : ByteArray) : List Nat := if popB b s then [] else idxL b s
theorem b2j_mem (b : List ByteArray) {s : ByteArray} {j : Nat} (h : j ∈ b2jL b s) : b[j]? = some s := by
  unfold b2jL at h
  split at h
  · cases h
  · exact (mem_idx b).1 h
theorem b2j_small (b : List ByteArray) (h : b.length < 200) {s : ByteArray} : b2jL b s = idxL b s := by
  unfold b2jL popB
  rw [if_neg]
  simp
  omega
/-- What chainB leaves. -/
def ChainG (M : Nat) (av bv bl op : Value) (bs : List ByteArray) (w w' : World) : Prop :=
  Below M w w' ∧ ∃ jv ju pv, Mat w' M av bv jv (.map (some ju)) bl pv op ∧ Looks w' jv (b2jL bs) ∧ w'.heap[ju]? = some (.map #[] 0)
/-- What stays while the map and new blocks turn. -/
structure Keeps (w w3 wx : World) (N J M : Nat) (av bv j0 bl p0 op : Value) : Prop where
  below : Below M w wx
  mat : Mat wx M av bv j0 (.map (some J)) bl p0 op
  junk : wx.heap[J]? = some (.map #[] 0)
  rows : ∀ i, N + 1 ≤ i → i < w3.heap.size → wx.heap[i]? = w3.heap[i]?
  size : w3.heap.size < wx.heap.size
  mn : M < N
  nj : N < w3.heap.size
  j3 : J = w3.heap.size
theorem Keeps.step {w w3 wx wy : World} {N J M : Nat} {av bv j0 bl p0 op : Value} {row : Option Nat} (h : Keeps w w3 wx N J M av bv j0 bl p0 op) (hg : wx.grownBy wy row) (hq : ∀ q, row = some q → q = N ∨ w3.heap.size < q) : Keeps w w3 wy N J M av bv j0 bl p0 op := by
  have h1 := h.mn
  have h2 := h.nj
  have h3 := h.j3
  have h4 := h.size
  refine ⟨h.below.grown hg (by omega) (fun q e => by rcases hq q e with h | h <;> omega), ?_, ?_, fun i hi1 hi2 => ?_, by have := hg.size; omega, h1, h2, h3⟩
  · exact (hg.block M (by omega) (fun e => by rcases hq M e.symm with h | h <;> omega)).trans h.mat
  · exact (hg.block J (by omega) (fun e => by rcases hq J e.symm with h | h <;> omega)).trans h.junk
  · exact (hg.block i (by omega) (fun e => by rcases hq i e.symm with h | h <;> omega)).trans (h.rows i hi1 hi2)
theorem keyL_lit (s : ByteArray) : WideAt.IsKeyLit (keyL s) := by unfold keyL; trivial
theorem key_is {s : ByteArray} {kl : Lit} (h : keyOf Tryd.prog 9 (.string s) = some kl) : kl = keyL s := by
  have hu := Tryd.underlying9
  simp [keyOf, hu, mapKey] at h
  first
    | exact h.2.symm
    | exact h.symm
    | (obtain ⟨_, rfl⟩ := h; rfl)
/-- Which elements have been found to stand too often, while the rest is still to come. -/
def Sel (bs : List ByteArray) (D DP : DataW Unit) (left : Lit → Bool) : Prop :=
  (∀ kl, left kl = true → Maps.has D kl = true) ∧ IsMap DP ∧ ∀ s, Maps.has DP (keyL s) = (Maps.has D (keyL s) && !left (keyL s) && decide (bs.length / 100 + 1 < (idxL bs s).length))
theorem sel_start (bs : List ByteArray) (D : DataW Unit) : Sel bs D (.map []) (Maps.has D) := by
  refine ⟨fun _ h => h, ⟨_, rfl⟩, fun s => ?_⟩
  show false = _
  cases Maps.has D (keyL s) <;> rfl
theorem sel_put {bs : List ByteArray} {D DP : DataW Unit} {left : Lit → Bool} {s0 : ByteArray} (h : Sel bs D DP left) (hl : left (keyL s0) = true) (hn : bs.length / 100 + 1 < (idxL bs s0).length) (d : DataW Unit) : Sel bs D (DP.put (keyL s0) d) (fun z => left z && !z.sameKey (keyL s0)) := by
  obtain ⟨h1, h2, h3⟩ := h
  refine ⟨fun kl hk => h1 kl (by simp only [Bool.and_eq_true] at hk; exact hk.1), ?_, fun s => ?_⟩
  · obtain ⟨es, he⟩ := h2
    rw [he]
    exact ⟨_, rfl⟩
  · by_cases hs : s = s0
    · subst hs
      dsimp only
      rw [has_put_same h2 (keyL_lit s), h1 _ hl, WideAt.sameKey_self (keyL_lit s)]
      simp [hn]
    · have hne : keyL s ≠ keyL s0 := fun he => hs (keyL_inj he)
      dsimp only
      rw [has_put_other hne, h3 s, sameKey_ne hne]
      simp
theorem sel_skip {bs : List ByteArray} {D DP : DataW Unit} {left : Lit → Bool} {s0 : ByteArray} (h : Sel bs D DP left) (hl : left (keyL s0) = true) (hn : ¬ bs.length / 100 + 1 < (idxL bs s0).length) : Sel bs D DP (fun z => left z && !z.sameKey (keyL s0)) := by
  obtain ⟨h1, h2, h3⟩ := h
  refine ⟨fun kl hk => h1 kl (by simp only [Bool.and_eq_true] at hk; exact hk.1), h2, fun s => ?_⟩
  by_cases hs : s = s0
  · subst hs
    rw [h3 s]
    simp [hn]
  · have hne : keyL s ≠ keyL s0 := fun he => hs (keyL_inj he)
    dsimp only
    rw [h3 s, sameKey_ne hne]
    simp
/-- Which of these have been struck from the map. -/
def Rem (bs : List ByteArray) (DP D5 : DataW Unit) (left : Lit → Bool) : Prop :=
  (∀ kl, left kl = true → Maps.has DP kl = true) ∧ ∀ s, D5.atKey (keyL s) .nil = if Maps.has DP (keyL s) && !left (keyL s) then .nil else ixD (idxL bs s)
theorem rem_start (bs : List ByteArray) (DP : DataW Unit) : Rem bs DP (gD bs bs.length) (Maps.has DP) := by
  refine ⟨fun _ h => h, fun s => ?_⟩
  rw [gD_at bs s bs.length (Nat.le_refl _), List.take_length, if_neg]
  cases Maps.has DP (keyL s) <;> simp
theorem rem_del {bs : List ByteArray} {DP D5 : DataW Unit} {left : Lit → Bool} {s0 : ByteArray} (h : Rem bs DP D5 left) (hl : left (keyL s0) = true) : Rem bs DP (D5.del (keyL s0)) (fun z => left z && !z.sameKey (keyL s0)) := by
  obtain ⟨h1, h3⟩ := h
  refine ⟨fun kl hk => h1 kl (by simp only [Bool.and_eq_true] at hk; exact hk.1), fun s => ?_⟩
  by_cases hs : s = s0
  · subst hs
    rw [atKey_del_same, h1 _ hl]
    simp [WideAt.sameKey_self (keyL_lit s)]
  · have hne : keyL s ≠ keyL s0 := fun he => hs (keyL_inj he)
    rw [atKey_del_other hne, h3 s]
    simp [sameKey_ne hne]
theorem rem_end {bs : List ByteArray} {DP D5 : DataW Unit} {l1 l2 : Lit → Bool} (hbig : 200 ≤ bs.length) (h : Sel bs (gD bs bs.length) DP l1) (hl1 : ∀ kl, l1 kl = false) (h' : Rem bs DP D5 l2) (hl2 : ∀ kl, l2 kl = false) (s : ByteArray) : D5.atKey (keyL s) .nil = ixD (b2jL bs s) := by
  rw [h'.2 s, hl2, h.2.2 s, hl1]
  unfold b2jL popB
  by_cases hn : bs.length / 100 + 1 < (idxL bs s).length
  · have hh : Maps.has (gD (H := Unit) bs bs.length) (keyL s) = true := by
      cases hc : Maps.has (gD (H := Unit) bs bs.length) (keyL s)
      · have h1 := atKey_of_not_has hc .nil
        rw [gD_at bs s bs.length (Nat.le_refl _), List.take_length] at h1
        unfold ixD at h1
        rw [if_neg (fun h0 => by rw [h0] at hn; simp at hn)] at h1
        cases h1
      · rfl
    rw [hh, if_pos (by simp [hn]), if_pos (by simp [hn, hbig])]
    rfl
  · rw [if_neg (by simp [hn]), if_neg (by simp [hn])]

/-- An entry of the map from lines to places has come up. -/
structure NextB (bs : List ByteArray) (w3 w w' : World) (N r n : Nat) (D : DataW Unit) (left : Lit → Bool) (cnt base : Nat) (x : ByteArray) (p : Option Addr) (c : Nat) : Prop where
  key : keyOf Tryd.prog 9 (.string x) = some (keyL x)
  here : left (keyL x) = true
  rng : ∃ cnt', w'.ranges Tryd.prog 9 (rowElem w3 base 3 .i64) N r n D (fun z => left z && !z.sameKey (keyL x)) cnt' ∧ cnt' < cnt
  grown : w.grownBy w' (some r)
  entry : (Instr.entry (.pointer (some ⟨r, 0, none⟩))).run Tryd.prog w' = .ok (.tuple #[.string x, .slice p (idxL bs x).length c]) w'
theorem next_b2j {ops : Array Oper} {rest : List Oper} {o : Oper} {a : Act} {Q : Exit → Act → World → Prop} (bs : List ByteArray) (w w3 : World) (N r n cnt base : Nat) (left : Lit → Bool)
    (hg : o.guard = none) (it : Operand) (hop : o.op = Op.next it false) (hit : a.eval it = .pointer (some ⟨r, 0, none⟩)) (h : w.ranges (H := Unit) Tryd.prog 9 (rowElem w3 base 3 .i64) N r n (gD bs bs.length) left cnt)
    (hDone : (∀ kl, left kl = false) → wpList Tryd.prog ops Q rest (a.put o.dst (.tuple #[.bool false])) w)
    (hMore : ∀ (x : ByteArray) (p : Option Addr) (c : Nat) (w' : World), NextB bs w3 w w' N r n (gD bs bs.length) left cnt base x p c → wpList Tryd.prog ops Q rest (a.put o.dst (.tuple #[.bool true, .string x, .slice p (idxL bs x).length c])) w') :
    wpList Tryd.prog ops Q (o :: rest) a w := by
  refine wpList_next_ranges w hg it hop 9 lawS (rowElem w3 base 3 .i64) Value.string (fun (x : Option Addr × Nat × Nat) => .slice x.1 x.2.1 x.2.2) (fun key kl h => Maps.keyOf_string_inv Tryd.underlying9 h) (fun v y hv => ?_) N r n _ left cnt hit h (fun _ hl => hDone hl) (fun x c kl y w' cnt' hkey hlk hRy hat hrg hlt hgr hsz hen => ?_)
  · obtain ⟨zs, ho, _⟩ := rowElem_inv hv
    rcases ho.1.2 with ⟨rfl, _⟩ | ⟨g, cap, cur, rfl, _⟩
    · exact ⟨(none, 0, 0), rfl⟩
    · exact ⟨(some ⟨g, 0, none⟩, _, cap), rfl⟩
  · obtain ⟨p, l, c⟩ := c
    obtain rfl := key_is hkey
    obtain ⟨zs, ho, hy⟩ := rowElem_inv hRy
    have h1 := hat .nil
    rw [hy, gD_at bs x bs.length (Nat.le_refl _), List.take_length] at h1
    have h2 := ix_of_row (idxL bs x) ho h1.symm
    have h3 : l = zs.length := by
      rcases ho.1.2 with ⟨h4, h5⟩ | ⟨g, cap, cur, h4, _⟩
      · simp at h4; omega
      · simp at h4; omega
    have h6 : l = (idxL bs x).length := by rw [h3, h2, List.length_map]
    subst h6
    exact hMore x p c w' ⟨hkey, hlk, ⟨cnt', hrg, hlt⟩, hgr, hen⟩
/-- An entry of a set has come up. -/
structure NextU (w w' : World) (P r n : Nat) (D : DataW Unit) (left : Lit → Bool) (cnt : Nat) (x : ByteArray) : Prop where
  key : keyOf Tryd.prog 9 (.string x) = some (keyL x)
  here : left (keyL x) = true
  rng : ∃ cnt', w'.ranges Tryd.prog 9 unitElem P r n D (fun z => left z && !z.sameKey (keyL x)) cnt' ∧ cnt' < cnt
  grown : w.grownBy w' (some r)
  entry : (Instr.entry (.pointer (some ⟨r, 0, none⟩))).run Tryd.prog w' = .ok (.tuple #[.string x, .agg #[]]) w'
theorem next_unit {ops : Array Oper} {rest : List Oper} {o : Oper} {a : Act} {Q : Exit → Act → World → Prop} (w : World) (P r n cnt : Nat) (D : DataW Unit) (left : Lit → Bool)
    (hg : o.guard = none) (it : Operand) (hop : o.op = Op.next it false) (hit : a.eval it = .pointer (some ⟨r, 0, none⟩)) (h : w.ranges Tryd.prog 9 unitElem P r n D left cnt)
    (hDone : (∀ kl, left kl = false) → wpList Tryd.prog ops Q rest (a.put o.dst (.tuple #[.bool false])) w)
    (hMore : ∀ (x : ByteArray) (w' : World), NextU w w' P r n D left cnt x → wpList Tryd.prog ops Q rest (a.put o.dst (.tuple #[.bool true, .string x, .agg #[]])) w') :
    wpList Tryd.prog ops Q (o :: rest) a w := by
  refine wpList_next_ranges w hg it hop 9 lawS unitElem Value.string (fun (_ : Unit) => .agg #[]) (fun key kl h => Maps.keyOf_string_inv Tryd.underlying9 h) (fun v y hv => ?_) P r n _ left cnt hit h (fun _ hl => hDone hl) (fun x c kl y w' cnt' hkey hlk hRy hat hrg hlt hgr hsz hen => ?_)
  · obtain ⟨rfl, _⟩ := unitElem_inv hv
    exact ⟨(), rfl⟩
  · obtain rfl := key_is hkey
    exact hMore x w' ⟨hkey, hlk, ⟨cnt', hrg, hlt⟩, hgr, hen⟩
theorem chain_endG {w w3 w1 : World} {N J M n : Nat} {av bv j0 bl p0 op pv : Value} {bs : List ByteArray} {D : DataW Unit} (h : Keeps w w3 w1 N J M av bv j0 bl p0 op) (hown : w1.ownsMap Tryd.prog 9 (rowElem w3 (N + 1) 3 .i64) N n D)
    (hD : ∀ s, D.atKey (keyL s) .nil = ixD (b2jL bs s)) : ChainG M av bv bl op bs w ((w1.setCell ⟨M, 8, none⟩ pv).setCell ⟨M, 2, none⟩ (.map (some N))) := by
  have h1 := h.mn
  have h2 := h.nj
  have h3 := h.j3
  have h4 := h.size
  have hsc : ((w1.setCell ⟨M, 8, none⟩ pv).setCell ⟨M, 2, none⟩ (.map (some N))).heap.size = w1.heap.size := by simp [World.setCell]
  refine ⟨(h.below.setCell (p := ⟨M, 8, none⟩) (Nat.le_refl M) _).setCell (p := ⟨M, 2, none⟩) (Nat.le_refl M) _, _, J, pv, (h.mat.set8 pv).set2 _, ?_, ?_⟩
  · refine looks_of (w3 := w3) (base := N + 1) ((hown.setCell (by simp; omega) _).setCell (by simp; omega) _) (fun i h1 h2 => ?_) (by omega) hD
    rw [Below.heap_setCell _ _ _ _ (by simp; omega), Below.heap_setCell _ _ _ _ (by simp; omega)]
    exact h.rows i h1 h2
  · rw [Below.heap_setCell _ _ _ _ (by simp; omega), Below.heap_setCell _ _ _ _ (by simp; omega)]
    exact h.junk

set_option maxHeartbeats 3200000 in
set_option maxRecDepth 100000 in
theorem chainB_all (M : Nat) (av ov j0 m0 p0 bl op : Value) (bs : List ByteArray) (w : World) (hm : Mat w M av ov j0 m0 bl p0 op) (hov : RdC Value.string w ov bs) (hl : bs.length ≤ 2147483647) (hsz : ∀ s ∈ bs, s.size ≤ maxLen) :
    Calls Tryd.prog 37 #[.pointer (some ⟨M, 0, none⟩)] w fun e w' => e = .returned (.tuple #[]) ∧ ChainG M av ov bl op bs w w' := by
  obtain ⟨a, cap, b, off, rfl, hcap, hmx, ha, hc⟩ := hov
  unfold maxLen at hmx
  have hmm := @run_makeMap Tryd.prog
  obtain ⟨i0, hi, hz0, hz1, hz2⟩ := info_parts info_i64
  have hML : M < w.heap.size := (Array.getElem?_eq_some_iff.1 hm).1
  have k1 : w.cell? ⟨M, 1, none⟩ = some (.slice a bs.length cap) := by rw [Lib.cell_of_heap hm]; rfl
  go_enter Tryd.func37, Tryd.ntmps37
  go_wp2_with fail
  go_loopw [21] (fun i wr => ∃ k : Nat, k ≤ bs.length ∧ i = .int .i64 k ∧ wr.ownsGroups Tryd.prog 9 (w.heap.size + 1) 3 .i64 w.heap.size k (gD (H := Unit) bs k) ∧ Below w.heap.size w wr ∧ w.heap.size + 1 ≤ wr.heap.size)
    (fun i _ => bs.length - (intOf i).toNat)
  case atStart => exact ⟨0, Nat.zero_le _, rfl, World.ownsGroups_made _ _ _ _ _, (Below.refl _ _).alloc (Nat.le_refl _) _, by simp⟩
  case round =>
    obtain ⟨k, hk, rfl, hown, hnx, hws⟩ := hrel
    by_cases hlt : k < bs.length
    · obtain rfl : a = some ⟨b, off, none⟩ := by
        rcases ha with h | h
        · rw [h] at hlt; exact absurd hlt (Nat.not_lt_zero _)
        · exact h
      have c1 := hc k bs[k] (List.getElem?_eq_getElem hlt)
      have c1' : wr.cell? ⟨b, off + k, none⟩ = some (.string bs[k]) := (hnx.cell (p := ⟨b, off + k, none⟩) (World.block_lt_of_cell? w _ c1)).trans c1
      have hkey : keyOf Tryd.prog 9 (.string bs[k]) = some (keyL bs[k]) := WideMaps.keyOf_string_mk Tryd.underlying9 (hsz _ (List.getElem_mem hlt))
      have HG := Lib.hid (fun (v : Value) (zs : List Int) (ho : wr.ownsInts (w.heap.size + 1) 3 .i64 v zs) (hat : (gD (H := Unit) bs k).atKey (keyL bs[k]) .nil = rowDatum .i64 v zs) => gD_step bs k hlt ho hat)
      clear c1 hc
      generalize bs[k] = s at *
      go_wp2_with (first
        | (at_lookup; refine wpList_lookup_groups _ rfl _ _ 64 rfl 9 84 3 .i64 lawS Tryd.underlying64 (zeroInts _) (w.heap.size + 1) w.heap.size k _ rfl hown (by unfold maxLen; omega) _ _ rfl hkey ?_; intro v zs hat hoi hzl hback)
        | (at_builtin; refine wpList_append_own_at _ rfl _ _ 84 rfl (w.heap.size + 1) 3 i0 (.int .i64 0) 1 8 Tryd.underlying84 hi hz0 hz1 hz2 rfl (by decide) _ _ _ rfl (hoi.1.alloc _) ⟨wr.heap.size, 0, none⟩ 1 1 [.int .i64 k] rfl rfl (cell_one_new _ _ _) (ints_oneCell .i64 [(k : Int)]) (by unfold maxLen; omega) (by omega) (by simp; omega) ?_; intro v' w1 hown' hgrow hnil hloc)
        | (at_mapUpdate; refine wpList_mapUpdate_back _ rfl _ _ _ 64 rfl hback rfl rfl rfl ((World.grownBy_alloc _ _ _).trans hgrow) (hoi.appended hown' (WalkArith.wf_i64 (by omega))) (by simp; omega) (hloc.imp id (fun h => ⟨_, h, by simp⟩)) ?_; intro w2 hown2 hgrow2))
      have hall := (World.grownBy_alloc wr _ _).trans hgrow
      go_roundw
      case rel =>
        refine ⟨k + 1, by omega, by go_num, ?_, hnx.groups hoi hall hgrow2 hnx.size (Nat.le_succ _) (Nat.le_refl _), Nat.le_trans hws (Nat.le_trans hall.size hgrow2.size)⟩
        rw [HG.out v zs hoi hat, ← (hoi.appended hown' (WalkArith.wf_i64 (by omega))).datum_pos (by simp)]
        exact hown2
      case measure => simp [intOf]; omega
    · have hk2 : k = bs.length := by omega
      subst hk2
      have k0 : wr.cell? ⟨M, 1, none⟩ = some (.slice a bs.length cap) := (hnx.cell (p := ⟨M, 1, none⟩) hML).trans k1
      have hmw : Mat wr M (av) (.slice a bs.length cap) j0 m0 bl p0 op := (hnx.block M hML).trans hm
      have hm2 : M < wr.heap.size := by omega
      have hmw2 : Mat (wr.alloc (.map #[] 0)) M (av) (.slice a bs.length cap) j0 m0 bl p0 op := (Below.heap_alloc wr _ M hm2).trans hmw
      have f5 : (wr.alloc (.map #[] 0)).frozen? ⟨M, 5, none⟩ = false := by simp [World.frozen?, show (wr.alloc (.map #[] 0)).heap[M]? = _ from hmw2]
      clear hc
      have k5 : wr.cell? ⟨M, 5, none⟩ = some m0 := by rw [Lib.cell_of_heap hmw]; rfl
      go_upto_region 9 with fail
      have hb1 : Below M w ((wr.setCell ⟨M, 5, none⟩ (.map (some wr.heap.size))).alloc (.map #[] 0)) := ((hnx.mono (Nat.le_of_lt hML)).setCell (p := ⟨M, 5, none⟩) (Nat.le_refl M) _).alloc (by simp [World.setCell]; omega) _
      have hsc : (wr.setCell ⟨M, 5, none⟩ (.map (some wr.heap.size))).heap.size = wr.heap.size := by simp [World.setCell]
      have hm1 : Mat ((wr.setCell ⟨M, 5, none⟩ (.map (some wr.heap.size))).alloc (.map #[] 0)) M av (.slice a bs.length cap) j0 (.map (some wr.heap.size)) bl p0 op := (Below.heap_alloc _ _ M (by rw [hsc]; omega)).trans (hmw.set5 _)
      have hJ : ((wr.setCell ⟨M, 5, none⟩ (.map (some wr.heap.size))).alloc (.map #[] 0)).heap[wr.heap.size]? = some (.map #[] 0) := by have h := heap_alloc_new (wr.setCell ⟨M, 5, none⟩ (.map (some wr.heap.size))) (.map #[] 0); rw [hsc] at h; exact h
      have hown1 : ((wr.setCell ⟨M, 5, none⟩ (.map (some wr.heap.size))).alloc (.map #[] 0)).ownsMap (H := Unit) Tryd.prog 9 (rowElem wr (w.heap.size + 1) 3 .i64) w.heap.size bs.length (gD bs bs.length) := by
        obtain ⟨es, clock, g1, g2, g3, g4, _⟩ := hown
        exact World.ownsMap.alloc (World.ownsMap.setCell ⟨es, clock, g1, g2, g3, g4⟩ (by simp; omega) _) _
      have hk1 : ∀ i, w.heap.size + 1 ≤ i → i < wr.heap.size → ((wr.setCell ⟨M, 5, none⟩ (.map (some wr.heap.size))).alloc (.map #[] 0)).heap[i]? = wr.heap[i]? := fun i h1 h2 => (Below.heap_alloc _ _ i (by rw [hsc]; omega)).trans (Below.heap_setCell _ _ _ _ (by simp; omega))
      have hs1 : ((wr.setCell ⟨M, 5, none⟩ (.map (some wr.heap.size))).alloc (.map #[] 0)).heap.size = wr.heap.size + 1 := by simp [hsc]
      generalize (wr.setCell ⟨M, 5, none⟩ (.map (some wr.heap.size))).alloc (.map #[] 0) = w1 at *
      have q1 : w1.cell? ⟨M, 1, none⟩ = some (.slice a bs.length cap) := by rw [Lib.cell_of_heap hm1]; rfl
      have q2 : w1.cell? ⟨M, 2, none⟩ = some j0 := by rw [Lib.cell_of_heap hm1]; rfl
      have q3 : w1.cell? ⟨M, 3, none⟩ = some .nilFunc := by rw [Lib.cell_of_heap hm1]; rfl
      have q4 : w1.cell? ⟨M, 4, none⟩ = some (.bool true) := by rw [Lib.cell_of_heap hm1]; rfl
      have q8 : w1.cell? ⟨M, 8, none⟩ = some p0 := by rw [Lib.cell_of_heap hm1]; rfl
      have e8 : w1.frozen? ⟨M, 8, none⟩ = false := by simp [World.frozen?, show w1.heap[M]? = _ from hm1]
      have e2 : w1.frozen? ⟨M, 2, none⟩ = false := by simp [World.frozen?, show w1.heap[M]? = _ from hm1]
      have hM1 : M < w1.heap.size := by omega
      have hnj := nil_junk w1
      clear hmw hmw2 f5 k0 k5 hown
      by_cases hbig : 200 ≤ bs.length
      · have hbig' : (200 : Int) ≤ (bs.length : Int) := by omega
        have HK1 := Lib.hid (show Keeps w wr w1 w.heap.size wr.heap.size M av (.slice a bs.length cap) j0 bl p0 op from ⟨hb1, hm1, hJ, hk1, by omega, hML, by omega, rfl⟩)
        have hq : (bs.length : Int).tdiv 100 = ((bs.length / 100 : Nat) : Int) := rfl
        go_wp2_with (at_range; refine wpList_range_own _ rfl _ 64 rfl 9 84 lawS Tryd.underlying64 (rowElem wr (w.heap.size + 1) 3 .i64) w.heap.size bs.length (gD (H := Unit) bs bs.length) rfl (hown1.alloc _) ?_; intro w4 hrg4 hg4 hs4)
        go_frame
        generalize wr = w3 at *
        have HK4 : Keeps w w3 w4 w.heap.size w3.heap.size M av (.slice a bs.length cap) j0 bl p0 op := (HK1.out.step (World.grownBy_alloc w1 (.map #[] 0) none) (fun q h => by cases h)).step hg4 (fun q h => by cases h)
        have hsA : (w1.alloc (.map #[] 0)).heap.size = w3.heap.size + 2 := by simp [hs1]
        have hP4 : w4.ownsMap (H := Unit) Tryd.prog 9 unitElem (w3.heap.size + 1) 0 (.map []) := by
          have h := (World.ownsMap_made (H := Unit) w1 Tryd.prog 9 unitElem).kept hg4 (by simp)
          rw [hs1] at h
          exact h
        have hD := hown1.size_le
        have HS0 := sel_start bs (gD (H := Unit) bs bs.length)
        clear hm1 hJ hown1 hk1 q1 q2 q3 q4 q8 e8 e2 hnj hg4 hb1
        have hND : w.heap.size ≠ w3.heap.size + 1 := by omega
        generalize (w1.alloc (.map #[] 0)).heap.size = r at *
        have hRD : r ≠ w3.heap.size + 1 := by omega
        have hRN : w.heap.size ≠ r := by omega
        have hR3 : w3.heap.size < r := by omega
        clear hsA
        go_loopw [] (fun wx => ∃ left cnt nP DP, wx.ranges Tryd.prog 9 (rowElem w3 (w.heap.size + 1) 3 .i64) w.heap.size r bs.length (gD bs bs.length) left cnt ∧ wx.ownsMap Tryd.prog 9 unitElem (w3.heap.size + 1) nP DP ∧ nP + cnt ≤ bs.length ∧ Sel bs (gD bs bs.length) DP left ∧ Keeps w w3 wx w.heap.size w3.heap.size M av (.slice a bs.length cap) j0 bl p0 op)
          (fun wx => wx.rangeLeft w.heap.size r)
        case atStart => exact ⟨_, _, 0, .map [], hrg4, hP4, by omega, HS0, HK4⟩
        case round =>
          obtain ⟨left, cnt, nP, DP, hrg, hP, hcnt, hsel, hke⟩ := hrel
          have HSEL := Lib.hid hsel
          have HKE := Lib.hid hke
          clear hsel hke HS0 HK4 hP4 hrg4 hD
          go_wp2_with (at_next; go_must (refine next_b2j bs wr w3 w.heap.size r bs.length cnt (w.heap.size + 1) left rfl _ rfl rfl hrg ?_ ?_))
          · intro hl0
            have hB := hrg.owns
            clear hrg
            go_wp2_with (at_range; refine wpList_range_own _ rfl _ 65 rfl 9 87 lawS Tryd.underlying65 unitElem (w3.heap.size + 1) nP DP rfl hP ?_; intro w5 hrg5 hg5 hs5)
            go_frame
            have hke5 := HKE.out.step hg5 (fun q h => by cases h)
            have hB5 := hB.kept hg5 (by simp)
            have hr2 : w3.heap.size < wr.heap.size := HKE.out.size
            have hrP : wr.heap.size ≠ w3.heap.size + 1 := fun h => hrg5.ne h
            have hrN : w.heap.size ≠ wr.heap.size := by omega
            have HREM := rem_start bs DP
            clear HKE hB hP hg5
            generalize wr.heap.size = r2 at *
            have hMN5 : M < w.heap.size := hML
            go_loopw [] (fun wx => ∃ l2 cnt2 D5, wx.ranges Tryd.prog 9 unitElem (w3.heap.size + 1) r2 nP DP l2 cnt2 ∧ wx.ownsMap Tryd.prog 9 (rowElem w3 (w.heap.size + 1) 3 .i64) w.heap.size bs.length D5 ∧ Rem bs DP D5 l2 ∧ Keeps w w3 wx w.heap.size w3.heap.size M av (.slice a bs.length cap) j0 bl p0 op)
              (fun wx => wx.rangeLeft (w3.heap.size + 1) r2)
            case atStart => exact ⟨_, _, _, hrg5, hB5, HREM, hke5⟩
            case round =>
              obtain ⟨l2, cnt2, D5, hrg, hB, hrem, hke⟩ := hrel
              have HREM2 := Lib.hid hrem
              have HKE := Lib.hid hke
              clear hrem hke hrg5 hB5 HREM hke5
              go_wp2_with (at_next; go_must (refine next_unit wr (w3.heap.size + 1) r2 nP cnt2 DP l2 rfl _ rfl rfl hrg ?_ ?_))
              · intro hl2
                have hMx := HKE.out.mat
                have q8 : wr.cell? ⟨M, 8, none⟩ = some p0 := by rw [Lib.cell_of_heap hMx]; rfl
                have q2 : wr.cell? ⟨M, 2, none⟩ = some j0 := by rw [Lib.cell_of_heap hMx]; rfl
                have e8 : wr.frozen? ⟨M, 8, none⟩ = false := by simp [World.frozen?, show wr.heap[M]? = _ from hMx]
                have e2 : wr.frozen? ⟨M, 2, none⟩ = false := by simp [World.frozen?, show wr.heap[M]? = _ from hMx]
                have HFIN := Lib.hid (chain_endG (pv := .map (some (w3.heap.size + 1))) HKE.out hB (rem_end hbig HSEL.out hl0 HREM2.out hl2))
                clear hMx hB hrg
                go_wp2_with fail
                go_end0
                exact ⟨rfl, HFIN.out⟩
              · intro x wx hN
                have hen := hN.entry
                have hkey := hN.key
                have HL := hN.here
                obtain ⟨cnt', hrg1, hlt⟩ := hN.rng
                have hB1 := hB.kept hN.grown (by simp; omega)
                have hke1 := HKE.out.step hN.grown (fun q h => by cases h; exact .inr hr2)
                go_wp2_with (at_delete; go_must (refine wpList_delete_own _ rfl _ _ 64 9 rfl 84 lawS Tryd.underlying64 (rowElem w3 (w.heap.size + 1) 3 .i64) w.heap.size bs.length D5 rfl hB1 _ _ rfl hkey ?_))
                intro w6 hown6 hturn6
                have hrg6 := hrg1.kept hturn6.grown (by simp; omega) (by simp; omega)
                go_wp2_with fail
                go_roundw
                case rel => exact ⟨_, cnt', _, hrg6, hown6, rem_del HREM2.out HL, hke1.step hturn6.grown (fun q h => by cases h; exact .inl rfl)⟩
                case measure => rw [hrg6.left_eq, hrg.left_eq]; omega
          · intro x p c wx hN
            have hen := hN.entry
            have hkey := hN.key
            have HL := hN.here
            obtain ⟨cnt', hrg1, hlt⟩ := hN.rng
            have hP1 := hP.kept hN.grown (by simp; omega)
            have hke1 := HKE.out.step hN.grown (fun q h => by cases h; exact .inr hR3)
            by_cases hp : bs.length / 100 + 1 < (idxL bs x).length
            · have hp' : (bs.length : Int) / 100 + 1 < ((idxL bs x).length : Int) := by omega
              go_wp2_with (at_mapUpdate; go_must (refine wpList_mapUpdate_in _ rfl _ _ _ 65 rfl 9 87 lawS Tryd.underlying65 unitElem (w3.heap.size + 1) nP DP rfl hP1 (by unfold maxLen; omega) (.string x) (.agg #[]) (keyL x) rfl rfl hkey (.agg []) [] unitElem_mk ?_))
              intro w5 hown5 hturn5
              have hrg5 := hrg1.kept hturn5.grown (by simp; omega) (by simp; omega)
              go_wp2_with fail
              go_roundw
              case rel => exact ⟨_, cnt', nP + 1, _, hrg5, hown5, by omega, sel_put HSEL.out HL hp _, hke1.step hturn5.grown (fun q h => by cases h; exact .inr (by omega))⟩
              case measure => rw [hrg5.left_eq, hrg.left_eq]; omega
            · have hp' : ¬ (bs.length : Int) / 100 + 1 < ((idxL bs x).length : Int) := by omega
              go_wp2_with fail
              go_roundw
              case rel => exact ⟨_, cnt', nP, _, hrg1, hP1, by omega, sel_skip HSEL.out HL hp, hke1⟩
              case measure => rw [hrg1.left_eq, hrg.left_eq]; omega
      · have hbig' : ¬ (200 : Int) ≤ (bs.length : Int) := by omega
        go_wp2_with fail
        go_end0
        refine ⟨rfl, ?_⟩
        have hfin := (chain_end (pv := .map (some w1.heap.size)) (b2jL bs) hb1 hm1 hJ hown1 hk1 (by omega) hML (by omega) (fun s => by rw [b2j_small bs (by omega), gD_at bs s bs.length (Nat.le_refl _), List.take_length]) (fun s j h => b2j_mem bs h) (fun _ s => b2j_small bs (by omega))).alloc (.map #[] 0)
        rw [hs1] at hfin
        obtain ⟨q1, jv, ju, pv, L, q2, q3, q4, q5, q6⟩ := hfin
        have hLe : L = b2jL bs := funext fun s => by rw [q6 (by omega) s, b2j_small bs (by omega)]
        rw [hLe] at q3
        exact ⟨q1, jv, ju, pv, q2, q3, q4⟩
end Go.Proofs.YtkbppaddghfgpaaDoor
