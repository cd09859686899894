/- The reference's unified diff. -/
import Derived.Test.YtkbppaddghfgpaaDoorSpU
import Derived.Test.YtkbppaddghfgpaaDoorUni2
import Derived.Deep.DeepCutAuto
set_option linter.unusedVariables false
set_option linter.unusedSimpArgs false
namespace Go.Proofs.YtkbppaddghfgpaaDoor
open Go.RowKit Go.Maps

/-- A part of a slice, as Go cuts it. -/
theorem RdC.cut {α : Type} {f : α → Value} {w : World} {p : Option Addr} {n cap : Nat} {xs : List α} (h : RdC f w (.slice p n cap) xs) (i j : Nat) (hij : i ≤ j) (hj : j ≤ xs.length) :
    RdC f w (.slice (if cap = i then p else Option.map (fun x => x.add i) p) (j - i) (cap - i)) ((xs.take j).drop i) := by
  obtain ⟨p', cap', b, off, he, hc, hm, hp, hcell⟩ := h
  injection he with e1 e2 e3
  subst e1 e2 e3
  have hlen : ((xs.take j).drop i).length = j - i := by rw [List.length_drop, List.length_take, Nat.min_eq_left hj]
  have hnil : j - i = 0 → (xs.take j).drop i = [] := fun h0 => List.eq_nil_of_length_eq_zero (by rw [hlen]; exact h0)
  refine ⟨_, cap - i, b, off + i, by rw [hlen], by rw [hlen]; omega, by unfold maxLen at *; omega, ?_, fun t x hx => ?_⟩
  · by_cases hci : cap = i
    · left; exact hnil (by omega)
    · rw [if_neg hci]
      rcases hp with h | h
      · left
        refine hnil ?_
        rw [h] at hj
        simp at hj
        omega
      · right; rw [h]; simp [Addr.add]
  · rw [List.getElem?_drop, List.getElem?_take] at hx
    split at hx
    · have := hcell _ _ hx
      rwa [← Nat.add_assoc] at this
    · cases hx
theorem len_lets : ∀ a : List ByteArray, a.length ≤ lets a
  | [] => Nat.le_refl _
  | x :: a => by
    have := len_lets a
    show a.length + 1 ≤ x.size + 1 + lets a
    omega
theorem hunks_take (a b : List ByteArray) (gs : List (List Ed)) (k : Nat) (h : k < gs.length) : hunksT a b (gs.take (k + 1)) = hunksT a b (gs.take k) ++ (hunkT a b gs[k] ++ gs[k].flatMap (edT a b)) := by
  rw [List.take_succ_eq_append_getElem h]
  unfold hunksT
  rw [List.flatMap_append]
  simp only [List.flatMap_cons, List.flatMap_nil, List.append_nil]
theorem hunks_pre (a b : List ByteArray) (gs : List (List Ed)) (k : Nat) : (hunksT a b (gs.take k)).length ≤ (hunksT a b gs).length := by
  have : hunksT a b gs = hunksT a b (gs.take k) ++ hunksT a b (gs.drop k) := by
    unfold hunksT
    rw [← List.flatMap_append, List.take_append_drop]
  rw [this, List.length_append]
  omega
theorem eds_take (a b : List ByteArray) (g : List Ed) (k : Nat) (h : k < g.length) : (g.take (k + 1)).flatMap (edT a b) = (g.take k).flatMap (edT a b) ++ edT a b g[k] := by
  rw [List.take_succ_eq_append_getElem h, List.flatMap_append]
  simp only [List.flatMap_cons, List.flatMap_nil, List.append_nil]
theorem eds_pre (a b : List ByteArray) (g : List Ed) (k : Nat) : ((g.take k).flatMap (edT a b)).length ≤ (g.flatMap (edT a b)).length := by
  have : g.flatMap (edT a b) = (g.take k).flatMap (edT a b) ++ (g.drop k).flatMap (edT a b) := by
    rw [← List.flatMap_append, List.take_append_drop]
  rw [this, List.length_append]
  omega

/-- The five cells of an edit. -/
def FiveAt (w : World) (b off : Nat) (e : Ed) : Prop :=
  w.cell? ⟨b, off, none⟩ = some (.int .u8 (e.tag : Int)) ∧ w.cell? ⟨b, off + 1, none⟩ = some (.int .i64 (e.i1 : Int)) ∧ w.cell? ⟨b, off + 2, none⟩ = some (.int .i64 (e.i2 : Int)) ∧ w.cell? ⟨b, off + 3, none⟩ = some (.int .i64 (e.j1 : Int)) ∧ w.cell? ⟨b, off + 4, none⟩ = some (.int .i64 (e.j2 : Int))
theorem FiveAt.below {w w' : World} {b off : Nat} {e : Ed} (h : FiveAt w b off e) (hb : Below w.heap.size w w') : FiveAt w' b off e := by
  obtain ⟨h0, h1, h2, h3, h4⟩ := h
  exact ⟨(hb.cell (p := ⟨b, off, none⟩) (World.block_lt_of_cell? w _ h0)).trans h0, (hb.cell (p := ⟨b, off + 1, none⟩) (World.block_lt_of_cell? w _ h1)).trans h1, (hb.cell (p := ⟨b, off + 2, none⟩) (World.block_lt_of_cell? w _ h2)).trans h2,
    (hb.cell (p := ⟨b, off + 3, none⟩) (World.block_lt_of_cell? w _ h3)).trans h3, (hb.cell (p := ⟨b, off + 4, none⟩) (World.block_lt_of_cell? w _ h4)).trans h4⟩

set_option maxHeartbeats 3200000 in
set_option maxRecDepth 100000 in
theorem specUnified {a b : List ByteArray} (x y : ByteArray) (v1 v2 v3 : Value) (gs : List (List Ed)) (w : World) (hv1 : RdC Value.string w v1 a) (hv2 : RdC Value.string w v2 b) (hv3 : RdL w v3 gs)
    (hg : ∀ g ∈ gs, OkG a.length b.length g) (hlen : (headT x y).length + (hunksT a b gs).length ≤ 281474976710656 / 2) (hla : lets a ≤ 2097152) (hlb : lets b ≤ 2097152) (hx : x.size ≤ 4194304) (hy : y.size ≤ 4194304) :
    Calls Tryd.prog 8 #[v1, v2, .string x, .string y, v3] w fun e w' => e = .returned (.string ⟨(uniT a b x y gs).toArray⟩) ∧ Below w.heap.size w w' := by
  have hal := len_lets a
  have hbl := len_lets b
  have HV1 := Lib.hid hv1
  have HV2 := Lib.hid hv2
  have HG := Lib.hid hg
  obtain ⟨ap, acap, ab, aoff, rfl, hac, hamx, hap, hacell⟩ := hv1
  obtain ⟨bp, bcap, bb, boff, rfl, hbc, hbmx, hbp, hbcell⟩ := hv2
  obtain ⟨gp, gcap, gb, goff, rfl, hgc, hgmx, hgp, hgcell⟩ := hv3
  unfold maxLen at hamx hbmx hgmx
  have HGC := Lib.hid hgcell
  clear hacell hbcell hgcell hg
  by_cases hgs : gs = []
  · have h0 : ((gs.length : Nat) : Int) = 0 := by rw [hgs]; rfl
    have e0 : ((gs.length : Int) == 0) = true := by simp; exact hgs
    have HU : Hid (uniT a b x y gs = []) := Lib.hid (by unfold uniT; rw [if_pos hgs])
    have HH := Lib.hid hgs
    clear hgs h0
    go_enter Tryd.func8, Tryd.ntmps8
    go_wp2_with fail
    go_ret
    exact ⟨by rw [HU.out]; rfl, Below.refl _ _⟩
  · have e0 : ((gs.length : Int) == 0) = false := by simp; exact hgs
    have hHL : (headT x y).length = x.size + y.size + 10 := by
      unfold headT
      simp only [List.length_append, List.length_cons, List.length_nil]
      have e1 : x.data.toList.length = x.size := Array.length_toList
      have e2 : y.data.toList.length = y.size := Array.length_toList
      omega
    have HHT : Hid ((((⟨#[45, 45, 45, 32]⟩ : ByteArray) ++ x ++ ⟨#[10, 43, 43, 43, 32]⟩) ++ y ++ ⟨#[10]⟩) = ⟨(headT x y).toArray⟩) := Lib.hid (by
      apply ByteArray.ext
      unfold headT
      simp)
    have HU : Hid (uniT a b x y gs = headT x y ++ hunksT a b gs) := Lib.hid (by unfold uniT; rw [if_neg hgs])
    have HH := Lib.hid hgs
    clear hgs
    go_enter Tryd.func8, Tryd.ntmps8
    go_wp2_with fail
    generalize headT x y = H at *
    go_loopw [11, 12] (fun v11 v12 wr => ∃ k : Nat, k ≤ gs.length ∧ v11 = .string ⟨(H ++ hunksT a b (gs.take k)).toArray⟩ ∧ v12 = .int .i64 (k : Int) ∧ Below w.heap.size w wr) (fun _ v12 _ => gs.length - (intOf v12).toNat)
    case atStart => exact ⟨0, Nat.zero_le _, by rw [show hunksT a b (gs.take 0) = [] from rfl, List.append_nil, ← HHT.out], rfl, Below.refl _ _⟩
    case round =>
      obtain ⟨k, hk, rfl, rfl, hbr⟩ := hrel
      generalize wr = w3 at *
      by_cases hlt : k < gs.length
      · have hlt' : (k : Int) < (gs.length : Int) := by omega
        obtain rfl : gp = some ⟨gb, goff, none⟩ := by
          rcases hgp with h | h
          · rw [h] at hlt; exact absurd hlt (Nat.not_lt_zero _)
          · exact h
        obtain ⟨vi, hci, hri⟩ := HGC.out k gs[k] (List.getElem?_eq_getElem hlt)
        have hci' := (hbr.cell (p := ⟨gb, goff + k, none⟩) (World.block_lt_of_cell? w _ hci)).trans hci
        have hri' := hri.below hbr
        obtain ⟨hgn, hge, hle1, hle2⟩ := HG.out gs[k] (List.getElem_mem hlt)
        have HN := Lib.hid (hunks_take a b gs k hlt)
        have hpl := hunks_pre a b gs k
        have hpl2 := hunks_pre a b gs (k + 1)
        rw [HN.out, List.length_append, List.length_append] at hpl2
        generalize hunksT a b (gs.take k) = P0 at *
        generalize gs[k] = g at *
        have HGE := Lib.hid hge
        have hgp0 : 0 < g.length := List.length_pos_iff.2 hgn
        clear hci hri hge hgn
        obtain ⟨ep, ecap, eb, eoff, rfl, hec, hemx, hep, hecell⟩ := hri'
        obtain rfl : ep = some ⟨eb, eoff, none⟩ := by
          rcases hep with h | h
          · rw [h] at hgp0; exact absurd hgp0 (Nat.lt_irrefl 0)
          · exact h
        have HEC : Hid (∀ (i : Nat) (t : Ed), g[i]? = some t → FiveAt w3 eb (eoff + i * 5) t) := Lib.hid hecell
        clear hecell
        unfold maxLen at hemx
        have hlg : g.length - 1 < g.length := by omega
        have hfst := HEC.out 0 (at0 g 0) (by rw [at0_mem hgp0]; exact List.getElem?_eq_getElem hgp0)
        have hlst := HEC.out (g.length - 1) (at0 g (g.length - 1)) (by rw [at0_mem hlg]; exact List.getElem?_eq_getElem hlg)
        have hok1 := HGE.out (at0 g 0) (by rw [at0_mem hgp0]; exact List.getElem_mem _)
        have hok2 := HGE.out (at0 g (g.length - 1)) (by rw [at0_mem hlg]; exact List.getElem_mem _)
        have HK : Hid (hunkT a b g = [64, 64, 32, 45] ++ rngT (at0 g 0).i1 (at0 g (g.length - 1)).i2 ++ [32, 43] ++ rngT (at0 g 0).j1 (at0 g (g.length - 1)).j2 ++ [32, 64, 64, 10]) := Lib.hid rfl
        generalize at0 g 0 = e1 at *
        generalize at0 g (g.length - 1) = e2 at *
        obtain ⟨t1, a1, a2, a3, a4⟩ := e1
        obtain ⟨t2, b1, b2, b3, b4⟩ := e2
        obtain ⟨c0, c1, c2, c3, c4⟩ := hfst
        obtain ⟨d0, d1, d2, d3, d4⟩ := hlst
        simp only at c0 c1 c2 c3 c4 d0 d1 d2 d3 d4 HK hle1 hle2
        simp only [Nat.zero_mul, Nat.add_zero] at c0 c1 c2 c3 c4
        have en : ((g.length : Int) == 0) = false := by rw [beq_eq_false_iff_ne]; omega
        have hebl : eb < w3.heap.size := World.block_lt_of_cell? w3 _ c0
        have hebl2 : eb < w3.heap.size + 1 := by omega
        have hw1 : IntKind.i64.wrap ((g.length : Int) - 1) = ((g.length - 1 : Nat) : Int) := (IntWalk.i64_in _ ⟨by omega, by omega⟩).trans (by omega)
        go_upto_region 9 with fail
        go_cut [14, 15] (fun v14 v15 wx => ∃ p q : Nat, v14 = .pointer (some ⟨p, 0, none⟩) ∧ v15 = .pointer (some ⟨q, 0, none⟩) ∧ FiveAt wx p 0 ⟨t1, a1, a2, a3, a4⟩ ∧ FiveAt wx q 0 ⟨t2, b1, b2, b3, b4⟩ ∧ Below w3.heap.size w3 wx)
        case first =>
          go_region
          · go_wp2_with fail
            go_meet
            case rel => exact ⟨w3.heap.size, w3.heap.size + 1, rfl, rfl, ⟨by simp, by simp, by simp, by simp, by simp⟩, ⟨by simp, by simp, by simp, by simp, by simp⟩, ((((Below.refl _ w3).alloc (Nat.le_refl _) _).alloc (by simp) _).drew)⟩
          · go_wp2_with fail
            go_meet
            case rel => exact ⟨w3.heap.size + 1, w3.heap.size, rfl, rfl, ⟨by simp, by simp, by simp, by simp, by simp⟩, ⟨by simp, by simp, by simp, by simp, by simp⟩, ((((Below.refl _ w3).alloc (Nat.le_refl _) _).alloc (by simp) _).drew)⟩
        case rest =>
          obtain ⟨p, q, rfl, rfl, hp, hq, hb43⟩ := hcut
          have hb4 := hbr.trans (hb43.mono hbr.size)
          clear c0 c1 c2 c3 c4 d0 d1 d2 d3 d4 hebl hebl2 hci'
          have hb43 := hb43
          generalize wc = w4 at *
          obtain ⟨o1, o2, o3, o4, _⟩ := hok1
          obtain ⟨o5, o6, o7, o8, _⟩ := hok2
          simp only at o1 o2 o3 o4 o5 o6 o7 o8
          haveI : Nonempty (Ext w4) := ⟨⟨w4, Below.refl _ _⟩⟩
          have y1 : ∀ x : Ext w4, x.val.cell? ⟨p, 1, none⟩ = some (.int .i64 (a1 : Int)) := fun x => by have := (hp.below x.beyond).2.1; rwa [Nat.zero_add] at this
          have y3 : ∀ x : Ext w4, x.val.cell? ⟨p, 3, none⟩ = some (.int .i64 (a3 : Int)) := fun x => by have := (hp.below x.beyond).2.2.2.1; rwa [Nat.zero_add] at this
          have y2 : ∀ x : Ext w4, x.val.cell? ⟨q, 2, none⟩ = some (.int .i64 (b2 : Int)) := fun x => by have := (hq.below x.beyond).2.2.1; rwa [Nat.zero_add] at this
          have y4 : ∀ x : Ext w4, x.val.cell? ⟨q, 4, none⟩ = some (.int .i64 (b4 : Int)) := fun x => by have := (hq.below x.beyond).2.2.2.2; rwa [Nat.zero_add] at this
          have HC : Hid (∀ (x : Ext w4) (s e : Nat), s ≤ e → e ≤ 2147483647 → Calls Tryd.prog 12 #[.int .i64 (s : Int), .int .i64 (e : Int)] x.val fun e' w' => e' = .returned (.string ⟨(rngT s e).toArray⟩) ∧ ∃ y : Ext w4, w' = y.val) := Lib.hid (fun x s e h1 h2 => (diffRange s e h1 h2 x.val).mono fun e w' h => ⟨h.1, ⟨w', x.beyond.trans (h.2.mono x.beyond.size)⟩, rfl⟩)
          have hb2l : b2 ≤ 2147483647 := by omega
          have hb4l : b4 ≤ 2147483647 := by omega
          have hr1 := rngT_len (s := a1) (e := b2) (by omega) (by omega)
          have hr2 := rngT_len (s := a3) (e := b4) (by omega) (by omega)
          have HB4 := Lib.hid hb4
          have HEC4 : Hid (∀ (x : Ext w4) (i : Nat) (t : Ed), g[i]? = some t → FiveAt x.val eb (eoff + i * 5) t) := Lib.hid (fun x i t h => (HEC.out i t h).below (hb43.trans (x.beyond.mono hb43.size)))
          have HF : Hid (∀ x : Ext w4, Below w.heap.size w x.val) := Lib.hid (fun x => hb4.trans (x.beyond.mono hb4.size))
          clear hp hq hb4
          go_upto_region 10 with fail
          refine wp_region_ext (Below.refl _ w4) (by kernel_rfl) (by kernel_rfl) ?_
          repeat (go_big_quiet_step (exact HC.out _ _ _ (by assumption) (by assumption)))
          refine wpQuiet_nil ?_
          rintro w5 ⟨⟨_, hb5⟩, rfl⟩
          have HQ : Hid ((⟨(H ++ P0).toArray⟩ : ByteArray) ++ ⟨#[64, 64, 32, 45]⟩ ++ ⟨(rngT a1 b2).toArray⟩ ++ ⟨#[32, 43]⟩ ++ ⟨(rngT a3 b4).toArray⟩ ++ ⟨#[32, 64, 64, 10]⟩ = ⟨(H ++ P0 ++ hunkT a b g).toArray⟩) := Lib.hid (by
            rw [HK.out]
            apply ByteArray.ext
            simp)
          have HN2 : Hid (H ++ hunksT a b (gs.take (k + 1)) = (H ++ P0 ++ hunkT a b g) ++ g.flatMap (edT a b)) := Lib.hid (by rw [HN.out]; simp only [List.append_assoc])
          have hQl : (H ++ P0 ++ hunkT a b g).length + (g.flatMap (edT a b)).length ≤ 281474976710656 / 2 := by
            rw [List.length_append, List.length_append]; omega
          have hb5w := HF.out ⟨_, hb5⟩
          have HEC5 : Hid (∀ (i : Nat) (t : Ed), g[i]? = some t → FiveAt w5 eb (eoff + i * 5) t) := Lib.hid (fun i t h => HEC4.out ⟨_, hb5⟩ i t h)
          have HB5 : Hid (∀ (x : World), Below w5.heap.size w5 x → Below w.heap.size w x) := Lib.hid (fun x h => hb5w.trans (h.mono hb5w.size))
          clear HN HK hr1 hr2 y1 y2 y3 y4 HC HF HB4
          generalize H ++ P0 ++ hunkT a b g = Q at *
          go_wp2_with fail
          go_loopw [11, 16] (fun v11 v16 wr => ∃ j : Nat, j ≤ g.length ∧ v11 = .string ⟨(Q ++ (g.take j).flatMap (edT a b)).toArray⟩ ∧ v16 = .int .i64 (j : Int) ∧ Below w5.heap.size w5 wr) (fun _ v16 _ => g.length - (intOf v16).toNat)
          case atStart => exact ⟨0, Nat.zero_le _, by rw [HQ.out, List.take_zero, List.flatMap_nil, List.append_nil], rfl, Below.refl _ _⟩
          case round =>
            obtain ⟨j, hj, rfl, rfl, hbr5⟩ := hrel
            by_cases hlt2 : j < g.length
            · have hlt2' : (j : Int) < (g.length : Int) := by omega
              have hfj := (HEC5.out j g[j] (List.getElem?_eq_getElem hlt2)).below hbr5
              have hokj := HGE.out g[j] (List.getElem_mem hlt2)
              have HT := Lib.hid (eds_take a b g j hlt2)
              have hpre := eds_pre a b g j
              have hpre2 := eds_pre a b g (j + 1)
              rw [HT.out, List.length_append] at hpre2
              generalize (g.take j).flatMap (edT a b) = T at *
              generalize g[j] = e at *
              obtain ⟨tg, i1, i2, j1, j2⟩ := e
              obtain ⟨u1, u2, u3, u4, _⟩ := hokj
              simp only at u1 u2 u3 u4
              have bw := HB5.out wr hbr5
              haveI : Nonempty (Ext wr) := ⟨⟨wr, Below.refl _ _⟩⟩
              have z0 : ∀ x : Ext wr, x.val.cell? ⟨eb, eoff + j * 5, none⟩ = some (.int .u8 (tg : Int)) := fun x => (hfj.below x.beyond).1
              have z1 : ∀ x : Ext wr, x.val.cell? ⟨eb, eoff + j * 5 + 1, none⟩ = some (.int .i64 (i1 : Int)) := fun x => (hfj.below x.beyond).2.1
              have z2 : ∀ x : Ext wr, x.val.cell? ⟨eb, eoff + j * 5 + 2, none⟩ = some (.int .i64 (i2 : Int)) := fun x => (hfj.below x.beyond).2.2.1
              have z3 : ∀ x : Ext wr, x.val.cell? ⟨eb, eoff + j * 5 + 3, none⟩ = some (.int .i64 (j1 : Int)) := fun x => (hfj.below x.beyond).2.2.2.1
              have z4 : ∀ x : Ext wr, x.val.cell? ⟨eb, eoff + j * 5 + 4, none⟩ = some (.int .i64 (j2 : Int)) := fun x => (hfj.below x.beyond).2.2.2.2
              have z00 : wr.cell? ⟨eb, eoff + j * 5, none⟩ = some (.int .u8 (tg : Int)) := hfj.1
              have b1 : (i1 : Int) ≤ (i2 : Int) := by omega
              have b2 : (i2 : Int) ≤ (acap : Int) := by omega
              have b3 : (j1 : Int) ≤ (j2 : Int) := by omega
              have b4 : (j2 : Int) ≤ (bcap : Int) := by omega
              have HB : Hid (∀ x : Ext wr, Below w.heap.size w x.val) := Lib.hid (fun x => bw.trans (x.beyond.mono bw.size))
              by_cases htg : tg = 101
              · have et : ((tg : Int) == 101) = true := by simp; omega
                have HE : Hid (edT a b ⟨tg, i1, i2, j1, j2⟩ = linesT 32 (part a i1 i2)) := Lib.hid (by unfold edT; rw [if_pos htg])
                have HC : Hid (∀ x : Ext wr, Calls Tryd.prog 13 #[.string ⟨#[32]⟩, .slice (if acap = i1 then ap else Option.map (fun x => x.add i1) ap) (i2 - i1) (acap - i1)] x.val fun e w' => e = .returned (.string ⟨(linesT 32 (part a i1 i2)).toArray⟩) ∧ ∃ y : Ext wr, w' = y.val) := Lib.hid (fun x => (diffJoined 32 _ rfl _ (part a i1 i2) x.val ((HV1.out.below (HB.out x)).cut i1 i2 u1 u2) (by have := part_lets a i1 i2; omega)).mono fun e w' h => ⟨h.1, x, h.2⟩)
                have hll := Nat.le_trans (Nat.le_of_eq (linesT_len 32 (part a i1 i2))) (part_lets a i1 i2)
                have HTG := Lib.hid htg
                clear htg hfj
                go_upto_region 15 with fail
                refine wp_region_ext (Below.refl _ wr) (by kernel_rfl) (by kernel_rfl) ?_
                repeat (go_big_quiet_step (exact HC.out _))
                refine wpQuiet_nil ?_
                rintro w6 ⟨⟨_, hb6⟩, rfl⟩
                have hb7 := hbr5.trans (hb6.mono hbr5.size)
                go_wp2_with fail
                go_roundw
                case rel => exact ⟨j + 1, by omega, by rw [HT.out, HE.out, ← List.append_assoc]; exact congrArg Value.string (bytes_app _ _), by go_num, hb7⟩
                case measure => simp [intOf]; omega
              · have et : ((tg : Int) == 101) = false := by simp; omega
                have HE : Hid (edT a b ⟨tg, i1, i2, j1, j2⟩ = linesT 45 (part a i1 i2) ++ linesT 43 (part b j1 j2)) := Lib.hid (by unfold edT; rw [if_neg htg])
                have HC : Hid (∀ (x : Ext wr) (q : UInt8) (v : Value) (R : List UInt8), (q = 45 ∧ v = .slice (if acap = i1 then ap else Option.map (fun x => x.add i1) ap) (i2 - i1) (acap - i1) ∧ R = linesT 45 (part a i1 i2)) ∨ (q = 43 ∧ v = .slice (if bcap = j1 then bp else Option.map (fun x => x.add j1) bp) (j2 - j1) (bcap - j1) ∧ R = linesT 43 (part b j1 j2)) →
                    Calls Tryd.prog 13 #[.string ⟨#[q]⟩, v] x.val fun e w' => e = .returned (.string ⟨R.toArray⟩) ∧ ∃ y : Ext wr, w' = y.val) := Lib.hid (fun x q v R h => by
                  rcases h with ⟨rfl, rfl, rfl⟩ | ⟨rfl, rfl, rfl⟩
                  · exact (diffJoined 45 _ rfl _ (part a i1 i2) x.val ((HV1.out.below (HB.out x)).cut i1 i2 u1 u2) (by have := part_lets a i1 i2; omega)).mono fun e w' h => ⟨h.1, x, h.2⟩
                  · exact (diffJoined 43 _ rfl _ (part b j1 j2) x.val ((HV2.out.below (HB.out x)).cut j1 j2 u3 u4) (by have := part_lets b j1 j2; omega)).mono fun e w' h => ⟨h.1, x, h.2⟩)
                have hl1 := Nat.le_trans (Nat.le_of_eq (linesT_len 45 (part a i1 i2))) (part_lets a i1 i2)
                have hl2 := Nat.le_trans (Nat.le_of_eq (linesT_len 43 (part b j1 j2))) (part_lets b j1 j2)
                have HTG := Lib.hid htg
                clear htg hfj
                go_upto_region 16 with fail
                refine wp_region_ext (Below.refl _ wr) (by kernel_rfl) (by kernel_rfl) ?_
                repeat (go_big_quiet_step (first | exact HC.out _ _ _ _ (.inl ⟨rfl, rfl, rfl⟩) | exact HC.out _ _ _ _ (.inr ⟨rfl, rfl, rfl⟩)))
                refine wpQuiet_nil ?_
                rintro w6 ⟨⟨_, hb6⟩, rfl⟩
                have hb7 := hbr5.trans (hb6.mono hbr5.size)
                go_wp2_with fail
                go_roundw
                case rel => exact ⟨j + 1, by omega, by rw [HT.out, HE.out, ← List.append_assoc, ← List.append_assoc]; exact congrArg Value.string (by rw [bytes_app, bytes_app]), by go_num, hb7⟩
                case measure => simp [intOf]; omega
            · have hjl : j = g.length := by omega
              have hlt2' : ¬ (j : Int) < (g.length : Int) := by omega
              subst hjl
              rw [List.take_length] at *
              have hbf := HB5.out wr hbr5
              go_wp2_with fail
              go_roundw
              case rel => exact ⟨k + 1, by omega, by rw [HN2.out], by go_num, hbf⟩
              case measure => simp [intOf]; omega
      · have hkl : k = gs.length := by omega
        have hlt' : ¬ (k : Int) < (gs.length : Int) := by omega
        subst hkl
        rw [List.take_length] at *
        go_wp2_with fail
        go_ret
        exact ⟨by rw [HU.out]; rfl, hbr⟩
end Go.Proofs.YtkbppaddghfgpaaDoor
