/- WriteUnifiedDiff. -/
import Derived.Test.YtkbppaddghfgpaaDoorWriB
import Derived.BigQuiet
set_option linter.unusedVariables false
set_option linter.unusedSimpArgs false
namespace Go.Proofs.YtkbppaddghfgpaaDoor
open Go.RowKit Go.Maps

theorem bAt_below {T e : TypeId} {B b : Nat} {p : Value} {bs : List Value} {W W' : World} (h : Lib.BuilderAtF T e B b p bs W) (hb : Below W.heap.size W W') : Lib.BuilderAtF T e B b p bs W' := by
  have key : ∀ (k : Nat) (o : Obj), W.heap[k]? = some o → W'.heap[k]? = some o := fun k o hk => by
    rw [hb.block k (Array.getElem?_eq_some_iff.1 hk).1]; exact hk
  obtain ⟨h1, v, h2, ⟨h3, h5⟩, h4⟩ := h
  refine ⟨h1, v, key _ _ h2, ⟨h3, ?_⟩, h4⟩
  rcases h5 with h5 | ⟨g, cap, cur, fz, e1, e2, e3, e4⟩
  · exact .inl h5
  · exact .inr ⟨g, cap, cur, fz, e1, e2, key _ _ e3, e4⟩
theorem bld_below {B b : Nat} {l : List UInt8} {W W' : World} (h : Bld B b l W) (hb : Below W.heap.size W W') : Bld B b l W' :=
  h.elim (fun x => .inl (bAt_below x hb)) (fun x => .inr (bAt_below x hb))
def SaidW (b : Nat) (l : List UInt8) (w w' : World) (e : Ending) : Prop := e = .returned .nilIface ∧ Bld b b l w' ∧ Fr b w w'

set_option maxHeartbeats 12800000 in
set_option maxRecDepth 100000 in
theorem writeU (B : Nat) (W : World) (v1 v2 : Value) (a b : List ByteArray) (x y : ByteArray) (n : Nat) (hn : n ≤ 255) (w : World) (hWw : Below W.heap.size W w) (hWB : W.heap.size ≤ B) (hBw : B < w.heap.size) (hbl : Bld B B [] w) (ht : Tab W)
    (hv1 : RdC Value.string W v1 a) (hv2 : RdC Value.string W v2 b) (ha : lets a ≤ 2097152) (hb : lets b ≤ 2097152) (hla : a.length ≤ 1048576) (hlb : b.length ≤ 1048576) (hsa : ∀ s ∈ a, s.size ≤ maxLen) (hsb : ∀ s ∈ b, s.size ≤ maxLen)
    (hx : x.size ≤ 4194304) (hy : y.size ≤ 4194304) (hx0 : x.toList.isEmpty = false) (hy0 : y.toList.isEmpty = false) :
    Calls Tryd.prog 19 #[.pointer (some ⟨B, 0, none⟩), .agg #[v1, .string x, .string ⟨#[]⟩, v2, .string y, .string ⟨#[]⟩, .string ⟨#[]⟩, .int .i64 (n : Int)]] w
      fun e w' => SaidW B (uniT a b x y (grp n (edits (gmb a b (b2jL b))))) w w' e := by
  have HSA := Lib.hid hsa
  have HSB := Lib.hid hsb
  have HV1 := Lib.hid (fun z (h : Below W.heap.size W z) => hv1.below h)
  have HV2 := Lib.hid (fun z (h : Below W.heap.size W z) => hv2.below h)
  have HT := Lib.hid (fun z (h : Below W.heap.size W z) => ht.below h)
  obtain ⟨ap, acap, ab, aoff, rfl, hac, hamx, hap, hacell⟩ := hv1
  obtain ⟨bp, bcap, bb, boff, rfl, hbc, hbmx, hbp, hbcell⟩ := hv2
  have hbA : Below w.heap.size w ((w.alloc (.cells #[.pointer (some ⟨B, 0, none⟩)] 53)).alloc (.cells #[.slice ap a.length acap, .string x, .string ⟨#[]⟩, .slice bp b.length bcap, .string y, .string ⟨#[]⟩, .string ⟨#[10]⟩, .int .i64 (n : Int)] 40)) := ((Below.refl _ w).alloc (Nat.le_refl _) _).alloc (by simp) _
  have HBL := Lib.hid (bld_below hbl hbA)
  have HP2 : Hid (((w.alloc (.cells #[.pointer (some ⟨B, 0, none⟩)] 53)).alloc (.cells #[.slice ap a.length acap, .string x, .string ⟨#[]⟩, .slice bp b.length bcap, .string y, .string ⟨#[]⟩, .string ⟨#[10]⟩, .int .i64 (n : Int)] 40)).heap[w.heap.size]? = some (.cells #[.pointer (some ⟨B, 0, none⟩)] 53)) := Lib.hid ((Below.heap_alloc _ _ w.heap.size (by simp)).trans (heap_alloc_new w _))
  have HP3 : Hid (((w.alloc (.cells #[.pointer (some ⟨B, 0, none⟩)] 53)).alloc (.cells #[.slice ap a.length acap, .string x, .string ⟨#[]⟩, .slice bp b.length bcap, .string y, .string ⟨#[]⟩, .string ⟨#[10]⟩, .int .i64 (n : Int)] 40)).heap[w.heap.size + 1]? = some (.cells #[.slice ap a.length acap, .string x, .string ⟨#[]⟩, .slice bp b.length bcap, .string y, .string ⟨#[]⟩, .string ⟨#[10]⟩, .int .i64 (n : Int)] 40)) := Lib.hid (by
    have h1 := heap_alloc_new (w.alloc (.cells #[.pointer (some ⟨B, 0, none⟩)] 53)) (.cells #[.slice ap a.length acap, .string x, .string ⟨#[]⟩, .slice bp b.length bcap, .string y, .string ⟨#[]⟩, .string ⟨#[10]⟩, .int .i64 (n : Int)] 40)
    have h2 : (w.alloc (.cells #[.pointer (some ⟨B, 0, none⟩)] 53)).heap.size = w.heap.size + 1 := by simp
    rwa [h2] at h1)
  have HWW := Lib.hid (hWw.trans (hbA.mono (Nat.le_of_lt (Nat.lt_of_le_of_lt hWB hBw))))
  unfold maxLen at hamx hbmx
  have hmf : ∀ (fn : Fn) (first cap : Array Value) (w : World), (Instr.makeFunc fn first cap).run Tryd.prog w = .ok (.func fn first cap) w := fun _ _ _ _ => rfl
  clear hsa hsb hbl ht hacell hbcell hWw
  go_enter Tryd.func19, Tryd.ntmps19
  go_upto_region 5 with fail
  have hsz1 := hbA.size
  generalize ((w.alloc (.cells #[.pointer (some ⟨B, 0, none⟩)] 53)).alloc (.cells #[.slice ap a.length acap, .string x, .string ⟨#[]⟩, .slice bp b.length bcap, .string y, .string ⟨#[]⟩, .string ⟨#[10]⟩, .int .i64 (n : Int)] 40)) = w1 at *
  generalize hP2 : w.heap.size = P2 at *
  have hP3s : P2 + 1 < w1.heap.size := (Array.getElem?_eq_some_iff.1 HP3.out).1
  have c0 : w1.cell? ⟨P2 + 1, 0, none⟩ = some (.slice ap a.length acap) := by rw [Lib.cell_of_heap HP3.out]; rfl
  have c3 : w1.cell? ⟨P2 + 1, 3, none⟩ = some (.slice bp b.length bcap) := by rw [Lib.cell_of_heap HP3.out]; rfl
  generalize hP3 : P2 + 1 = P3 at *
  go_wp2_with (go_at_call 17; go_must (refine (newMatcherG _ _ a b w1 (HV1.out _ HWW.out) (HV2.out _ HWW.out) (by omega) HSB.out).mono ?_))
  rintro e w2 ⟨rfl, hC⟩
  have hb1 := hC.1
  have hW2 : Below W.heap.size W w2 := HWW.out.trans (hb1.mono HWW.out.size)
  obtain ⟨hm0, hL⟩ := hC.mem0 (HV1.out _ hW2) (HV2.out _ hW2)
  have HG := Lib.hid (grouped n hn w2 hm0 hL (by omega) (by omega) HSA.out HSB.out)
  have HOK := Lib.hid (edits_right (a := a) hL)
  have hel := edits_len2 (a := a) hL
  have c7 : w2.cell? ⟨P3, 7, none⟩ = some (.int .i64 (n : Int)) := by rw [hb1.cell hP3s, Lib.cell_of_heap HP3.out]; rfl
  clear hC hm0 hL c0 c3
  go_wp2_with (go_at_call 22; go_must (refine HG.out.mono ?_))
  rintro e w3 ⟨⟨gv, rfl, B9, vals9, hMB, hgr⟩, hb2⟩
  have hb13 : Below w1.heap.size w1 w3 := hb1.trans hb2
  have hw13 : w1.heap.size ≤ w3.heap.size := hb13.size
  obtain ⟨gp, gcap, gb, rfl, hgc, hgm, hgp, hrow⟩ := rowG_at hgr (b := B) (by omega) (by decide) (by decide)
  have hW3 : Below W.heap.size W w3 := HWW.out.trans (hb13.mono HWW.out.size)
  have hbl3 : Bld B B [] w3 := bld_below HBL.out hb13
  have hk2 : w3.heap[P2]? = some (.cells #[.pointer (some ⟨B, 0, none⟩)] 53) := (hb13.block P2 (by omega)).trans HP2.out
  have hk3 : w3.heap[P3]? = some (.cells #[.slice ap a.length acap, .string x, .string ⟨#[]⟩, .slice bp b.length bcap, .string y, .string ⟨#[]⟩, .string ⟨#[10]⟩, .int .i64 (n : Int)] 40) := (hb13.block P3 (by omega)).trans HP3.out
  have HF2 : Hid (∀ z, Fr B w3 z → z.cell? ⟨P2, 0, none⟩ = some (.pointer (some ⟨B, 0, none⟩))) := Lib.hid (fun z h => by rw [Lib.cell_of_heap (h.block hk2 (by omega) (by decide))]; rfl)
  have HF3 : Hid (∀ z, Fr B w3 z → z.heap[P3]? = some (.cells #[.slice ap a.length acap, .string x, .string ⟨#[]⟩, .slice bp b.length bcap, .string y, .string ⟨#[]⟩, .string ⟨#[10]⟩, .int .i64 (n : Int)] 40)) := Lib.hid (fun z h => h.block hk3 (by omega) (by decide))
  have HWZ : Hid (∀ z, Fr B w3 z → Below W.heap.size W z) := Lib.hid (fun z h => hW3.trans (h.bel.mono hWB))
  have HWS : Hid (∀ (z : World) (l : List UInt8) (s : ByteArray), Fr B w3 z → Bld B B l z → l.length + s.size ≤ 140737488355328 → Calls Tryd.prog 26 #[.string s, .pointer (some ⟨P2, 0, none⟩)] z
      fun e w' => e = .returned .nilIface ∧ Bld B B (l ++ s.data.toList) w' ∧ Fr B w3 w') := Lib.hid (fun z l s h1 h2 h3 => (wsK B P2 l s z h2 (HF2.out z h1) h3 (by have := h1.size; omega)).mono fun e w' h => ⟨h.1, h.2.1, h1.trans h.2.2⟩)
  have hB3 : B ≤ w3.heap.size := by omega
  have hB3s : B < w3.heap.size := by omega
  have HEND : Hid (∀ z, Fr B w3 z → Fr B w z) := Lib.hid (fun z h => (Fr.of_below (w := w) (by rw [hP2]; exact hbA.trans (hb13.mono (by omega))) (by omega)).trans h)
  have hul := uni_len (a := a) (b := b) (x := x) (y := y) (n := n) (by omega) (by omega) (edOk_inc HOK.out).2 (by omega) ha hb hx hy
  have HOKG := Lib.hid (grp_okG (n := n) HOK.out)
  clear hgr hb1 hb2 hW2 HG HOK hW3 hk2 hk3 HWW HP2 HP3 HBL c7 hbA hMB hel hP3s hsz1
  obtain ⟨ht1, ht2⟩ := grp_tot n (edits (gmb a b (b2jL b)))
  have hlen := edits_len2 (a := a) (L := b2jL b) (fun v j h => b2j_mem b h)
  generalize hgs : grp n (edits (gmb a b (b2jL b))) = gs at *
  have HGS := Lib.hid hgs
  clear hgs
  have hgl : gs.length ≤ 8589934594 := by omega
  clear ht1 ht2 hlen
  have HROW := Lib.hid hrow
  clear hrow
  have hHL : (headT x y).length = x.size + y.size + 10 := by
    unfold headT
    simp only [List.length_append, List.length_cons, List.length_nil]
    have e1 : x.data.toList.length = x.size := Array.length_toList
    have e2 : y.data.toList.length = y.size := Array.length_toList
    omega
  unfold maxLen at hgm
  go_wp2_with fail
  go_loopw [6, 49] (fun v6 v49 wr => ∃ k : Nat, k ≤ gs.length ∧ v6 = .bool (decide (0 < k)) ∧ v49 = .int .i64 (k : Int) ∧ Bld B B (if k = 0 then [] else headT x y ++ hunksT a b (gs.take k)) wr ∧ Fr B w3 wr) (fun _ v49 _ => gs.length - (intOf v49).toNat)
  case atStart => exact ⟨0, Nat.zero_le _, rfl, rfl, hbl3, Fr.refl _ _⟩
  case round =>
    obtain ⟨k, hk, rfl, rfl, hbk, hfr⟩ := hrel
    by_cases hlt : k < gs.length
    · have hlt' : (k : Int) < (gs.length : Int) := by omega
      obtain ⟨hgn, hge, hle1, hle2⟩ := HOKG.out gs[k] (List.getElem_mem hlt)
      obtain ⟨ecap, eb, hec, hem, hcells⟩ := HROW.out k gs[k] (List.getElem?_eq_getElem hlt) hgn
      obtain rfl := hgp (by intro h0; rw [h0] at hlt; exact absurd hlt (Nat.not_lt_zero _))
      have HN := Lib.hid (hunks_take a b gs k hlt)
      have hpl := hunks_pre a b gs k
      have hpl2 := hunks_pre a b gs (k + 1)
      rw [HN.out, List.length_append, List.length_append] at hpl2
      have HKT : Hid ((if k + 1 = 0 then [] else headT x y ++ hunksT a b (gs.take (k + 1))) = headT x y ++ hunksT a b (gs.take (k + 1))) := Lib.hid (if_neg (by omega))
      have HK0 : Hid (k = 0 → hunksT a b (gs.take k) = []) := Lib.hid (fun h => by rw [h]; rfl)
      generalize hunksT a b (gs.take k) = P0 at *
      generalize gs[k] = g at *
      have HGE := Lib.hid hge
      have hgp0 : 0 < g.length := List.length_pos_iff.2 hgn
      have HCL := Lib.hid hcells
      unfold maxLen at hem
      have hlg : g.length - 1 < g.length := by omega
      have hok1 := HGE.out (at0 g 0) (by rw [at0_mem hgp0]; exact List.getElem_mem _)
      have hok2 := HGE.out (at0 g (g.length - 1)) (by rw [at0_mem hlg]; exact List.getElem_mem _)
      have HE1 : Hid (∀ z, Fr B w3 z → FiveAt z eb 0 (at0 g 0)) := Lib.hid (fun z h => by have := (HCL.out z h).2 0 (at0 g 0) (by rw [at0_mem hgp0]; exact List.getElem?_eq_getElem hgp0); rwa [Nat.zero_mul] at this)
      have HE2 : Hid (∀ z, Fr B w3 z → FiveAt z eb ((g.length - 1) * 5) (at0 g (g.length - 1))) := Lib.hid (fun z h => (HCL.out z h).2 (g.length - 1) (at0 g (g.length - 1)) (by rw [at0_mem hlg]; exact List.getElem?_eq_getElem hlg))
      have HK : Hid (hunkT a b g = [64, 64, 32, 45] ++ rngT (at0 g 0).i1 (at0 g (g.length - 1)).i2 ++ [32, 43] ++ rngT (at0 g 0).j1 (at0 g (g.length - 1)).j2 ++ [32, 64, 64, 10]) := Lib.hid rfl
      generalize at0 g 0 = e1 at *
      generalize at0 g (g.length - 1) = e2 at *
      obtain ⟨t1, a1, a2, a3, a4⟩ := e1
      obtain ⟨t2, b1, b2, b3, b4⟩ := e2
      simp only at HK hle1 hle2
      have cg := (HCL.out wr hfr).1
      have x1 : wr.cell? ⟨P3, 1, none⟩ = some (.string x) := by rw [Lib.cell_of_heap (HF3.out wr hfr)]; rfl
      have x2 : wr.cell? ⟨P3, 2, none⟩ = some (.string ⟨#[]⟩) := by rw [Lib.cell_of_heap (HF3.out wr hfr)]; rfl
      have x5 : wr.cell? ⟨P3, 5, none⟩ = some (.string ⟨#[]⟩) := by rw [Lib.cell_of_heap (HF3.out wr hfr)]; rfl
      have x6 : wr.cell? ⟨P3, 6, none⟩ = some (.string ⟨#[10]⟩) := by rw [Lib.cell_of_heap (HF3.out wr hfr)]; rfl
      clear hgn hge hcells
      go_upto_if 54 with fail
      go_cut [6] (fun v6 wx => v6 = .bool true ∧ Bld B B (headT x y ++ P0) wx ∧ Fr B w3 wx)
      case first =>
        as_aux_lemma =>
          by_cases hk0 : k = 0
          · have hd : decide (0 < k) = false := by rw [hk0]; rfl
            have hP0 : P0 = [] := HK0.out hk0
            rw [hd]
            rw [if_pos hk0] at hbk
            have H0 := Lib.hid hk0
            have HB0 := Lib.hid hbk
            have HFR := Lib.hid hfr
            clear hk0 hbk hfr
            go_wp2_with (go_at_call 26; go_must (refine (HWS.out _ [] _ HFR.out HB0.out ?_).mono ?_))
            · omega
            rintro e w4 rfl hb4 hfr4
            have y4 : w4.cell? ⟨P3, 4, none⟩ = some (.string y) := by rw [Lib.cell_of_heap (HF3.out w4 hfr4)]; rfl
            have y6 : w4.cell? ⟨P3, 6, none⟩ = some (.string ⟨#[10]⟩) := by rw [Lib.cell_of_heap (HF3.out w4 hfr4)]; rfl
            have hlx : (45 :: 45 :: 45 :: 32 :: (x.data.toList ++ [10])).length = x.size + 5 := by
              have e1 : x.data.toList.length = x.size := Array.length_toList
              simp only [List.length_append, List.length_cons, List.length_nil]; omega
            have HLX : Hid (headT x y ++ P0 = (45 :: 45 :: 45 :: 32 :: (x.data.toList ++ [10])) ++ 43 :: 43 :: 43 :: 32 :: (y.data.toList ++ [10])) := Lib.hid (by rw [hP0]; unfold headT; simp)
            generalize (45 :: 45 :: 45 :: 32 :: (x.data.toList ++ [10])) = X0 at *
            go_wp2_with (go_at_call 26; go_must (refine (HWS.out _ X0 _ hfr4 hb4 ?_).mono ?_))
            · have e1 : (⟨#[43, 43, 43, 32]⟩ ++ y ++ ⟨#[]⟩ ++ ⟨#[10]⟩ : ByteArray).size = y.size + 5 := by simp only [ByteArray.size_append]; show 4 + y.size + 0 + 1 = _; omega
              rw [e1]
              omega
            rintro e w5 ⟨rfl, hb5, hfr5⟩
            go_wp2_with fail
            go_meet
            case rel => exact ⟨rfl, by rw [HLX.out]; simpa using hb5, hfr5⟩
          · have hd : decide (0 < k) = true := by simp; omega
            rw [hd]
            rw [if_neg hk0] at hbk
            go_wp2_with fail
            go_meet
            case rel => exact ⟨rfl, hbk, hfr⟩
      case rest =>
        obtain ⟨rfl, hbc, hfc⟩ := hcut
        clear hbk x1 x2 x5 x6 hfr cg
        generalize wc = w4 at *
        obtain ⟨c0, c1, c2, c3, c4⟩ := HE1.out w4 hfc
        obtain ⟨d0, d1, d2, d3, d4⟩ := HE2.out w4 hfc
        simp only at c0 c1 c2 c3 c4 d0 d1 d2 d3 d4
        have hebl : eb < w4.heap.size := World.block_lt_of_cell? w4 _ c0
        have hebl2 : eb < w4.heap.size + 1 := by omega
        have hw1 : IntKind.i64.wrap ((g.length : Int) - 1) = ((g.length - 1 : Nat) : Int) := (IntWalk.i64_in _ ⟨by omega, by omega⟩).trans (by omega)
        go_upto_region 24 with fail
        go_cut [13, 14] (fun v13 v14 wx => ∃ p q : Nat, v13 = .pointer (some ⟨p, 0, none⟩) ∧ v14 = .pointer (some ⟨q, 0, none⟩) ∧ FiveAt wx p 0 ⟨t1, a1, a2, a3, a4⟩ ∧ FiveAt wx q 0 ⟨t2, b1, b2, b3, b4⟩ ∧ Below w4.heap.size w4 wx)
        case first =>
          as_aux_lemma =>
            go_region
            · go_wp2_with fail
              go_meet
              case rel => exact ⟨w4.heap.size, w4.heap.size + 1, rfl, rfl, ⟨by simp, by simp, by simp, by simp, by simp⟩, ⟨by simp, by simp, by simp, by simp, by simp⟩, ((((Below.refl _ w4).alloc (Nat.le_refl _) _).alloc (by simp) _).drew)⟩
            · go_wp2_with fail
              go_meet
              case rel => exact ⟨w4.heap.size + 1, w4.heap.size, rfl, rfl, ⟨by simp, by simp, by simp, by simp, by simp⟩, ⟨by simp, by simp, by simp, by simp, by simp⟩, ((((Below.refl _ w4).alloc (Nat.le_refl _) _).alloc (by simp) _).drew)⟩
        case rest =>
          as_aux_lemma =>
            obtain ⟨p, q, rfl, rfl, hp, hq, hb45⟩ := hcut
            have hf5 := hfc.trans (Fr.of_below hb45 (Nat.le_trans hB3 hfc.size))
            have hbd5 := bld_below hbc hb45
            clear c0 c1 c2 c3 c4 d0 d1 d2 d3 d4 hebl hebl2 hbc hfc
            generalize wc = w5 at *
            obtain ⟨o1, o2, o3, o4, _⟩ := hok1
            obtain ⟨o5, o6, o7, o8, _⟩ := hok2
            simp only at o1 o2 o3 o4 o5 o6 o7 o8
            have z1 : w5.cell? ⟨p, 1, none⟩ = some (.int .i64 (a1 : Int)) := hp.2.1
            have z2 : w5.cell? ⟨q, 2, none⟩ = some (.int .i64 (b2 : Int)) := hq.2.2.1
            have hr1 := rngT_len (s := a1) (e := b2) (by omega) (by omega)
            have hr2 := rngT_len (s := a3) (e := b4) (by omega) (by omega)
            go_wp2_with (go_at_call 28; go_must (refine (formatRange a1 b2 hle1 (by omega) w5 (HT.out _ (HWZ.out _ hf5))).mono ?_))
            first | rintro e w6 rfl hb56 | rintro e w6 ⟨rfl, hb56⟩
            have hf6 := hf5.trans (Fr.of_below hb56 (Nat.le_trans hB3 hf5.size))
            have hbd6 := bld_below hbd5 hb56
            have z3 : w6.cell? ⟨p, 3, none⟩ = some (.int .i64 (a3 : Int)) := by have := (hp.below hb56).2.2.2.1; rwa [Nat.zero_add] at this
            have z4 : w6.cell? ⟨q, 4, none⟩ = some (.int .i64 (b4 : Int)) := by have := (hq.below hb56).2.2.2.2; rwa [Nat.zero_add] at this
            clear hp hq hbd5 z1 z2 hb45
            go_wp2_with (go_at_call 28; go_must (refine (formatRange a3 b4 hle2 (by omega) w6 (HT.out _ (HWZ.out _ hf6))).mono ?_))
            first | rintro e w7 rfl hb67 | rintro e w7 ⟨rfl, hb67⟩
            have hf7 := hf6.trans (Fr.of_below hb67 (Nat.le_trans hB3 hf6.size))
            have hbd7 := bld_below hbd6 hb67
            have z6 : w7.cell? ⟨P3, 6, none⟩ = some (.string ⟨#[10]⟩) := by rw [Lib.cell_of_heap (HF3.out w7 hf7)]; rfl
            clear z3 z4 hbd6 hb56 hb67 hf5 hf6
            go_wp2_with (go_at_call 26; go_must (refine (HWS.out _ (headT x y ++ P0) _ hf7 hbd7 ?_).mono ?_))
            · have e1 : (⟨(rngT a1 b2).toArray⟩ : ByteArray).size = (rngT a1 b2).length := by simp [ByteArray.size]
              have e0 : (⟨(rngT a3 b4).toArray⟩ : ByteArray).size = (rngT a3 b4).length := by simp [ByteArray.size]
              have hkl : (hunkT a b g).length = (rngT a1 b2).length + (rngT a3 b4).length + 10 := by rw [HK.out]; simp only [List.length_append, List.length_cons, List.length_nil]; omega
              have e2 : (⟨#[64, 64, 32, 45]⟩ : ByteArray).size = 4 := rfl
              have e3 : (⟨#[32, 43]⟩ : ByteArray).size = 2 := rfl
              have e4 : (⟨#[32, 64, 64]⟩ : ByteArray).size = 3 := rfl
              have e5 : (⟨#[10]⟩ : ByteArray).size = 1 := rfl
              simp only [ByteArray.size_append, e0, e1, e2, e3, e4, e5, List.length_append]
              omega
            first | rintro e w8 rfl hb8 hf8 | rintro e w8 ⟨rfl, hb8, hf8⟩
            have hQ : headT x y ++ P0 ++ (⟨#[64, 64, 32, 45]⟩ ++ ⟨(rngT a1 b2).toArray⟩ ++ ⟨#[32, 43]⟩ ++ ⟨(rngT a3 b4).toArray⟩ ++ ⟨#[32, 64, 64]⟩ ++ ⟨#[10]⟩ : ByteArray).data.toList = headT x y ++ P0 ++ hunkT a b g := by
              rw [HK.out]; simp
            rw [hQ] at hb8
            clear hQ z6 hbd7 hf7 hr1 hr2
            have HN2 : Hid (headT x y ++ hunksT a b (gs.take (k + 1)) = (headT x y ++ P0 ++ hunkT a b g) ++ g.flatMap (edT a b)) := Lib.hid (by rw [HN.out]; simp only [List.append_assoc])
            have hQl : (headT x y ++ P0 ++ hunkT a b g).length + (g.flatMap (edT a b)).length ≤ 281474976710656 / 2 := by
              rw [List.length_append, List.length_append]; omega
            clear HN HK
            generalize headT x y ++ P0 ++ hunkT a b g = Q at *
            go_wp2_with fail
            go_loopw [138] (fun v138 wr => ∃ j : Nat, j ≤ g.length ∧ v138 = .int .i64 (j : Int) ∧ Bld B B (Q ++ (g.take j).flatMap (edT a b)) wr ∧ Fr B w3 wr) (fun v138 _ => g.length - (intOf v138).toNat)
            case atStart => exact ⟨0, Nat.zero_le _, rfl, by rw [List.take_zero, List.flatMap_nil, List.append_nil]; exact hb8, hf8⟩
            case round =>
              obtain ⟨j, hj, rfl, hbj, hfj⟩ := hrel
              by_cases hlt2 : j < g.length
              · have hlt2' : (j : Int) < (g.length : Int) := by omega
                have hej := (HCL.out wr hfj).2 j g[j] (List.getElem?_eq_getElem hlt2)
                have hokj := HGE.out g[j] (List.getElem_mem hlt2)
                have HT2 := Lib.hid (eds_take a b g j hlt2)
                have hpre := eds_pre a b g j
                have hpre2 := eds_pre a b g (j + 1)
                rw [HT2.out, List.length_append] at hpre2
                generalize (g.take j).flatMap (edT a b) = T at *
                generalize g[j] = e at *
                obtain ⟨tg, i1, i2, j1, j2⟩ := e
                obtain ⟨hu1, hu2, hu3, hu4, hu5⟩ := hokj
                simp only at hu1 hu2 hu3 hu4 hu5
                obtain ⟨c0, c1, c2, c3, c4⟩ := hej
                simp only at c0 c1 c2 c3 c4
                have hba := (Below.refl wr.heap.size wr).alloc (Nat.le_refl _) (.cells #[.int .u8 (tg : Int), .int .i64 (i1 : Int), .int .i64 (i2 : Int), .int .i64 (j1 : Int), .int .i64 (j2 : Int)] 63)
                have hfa := hfj.trans (Fr.of_below hba (Nat.le_trans hB3 hfj.size))
                have hbda := bld_below hbj hba
                have hnew := heap_alloc_new wr (.cells #[.int .u8 (tg : Int), .int .i64 (i1 : Int), .int .i64 (i2 : Int), .int .i64 (j1 : Int), .int .i64 (j2 : Int)] 63)
                have HB9 : Hid (B < wr.heap.size) := Lib.hid (by have := hfj.size; omega)
                clear hbj
                go_upto_region 33 with fail
                generalize (wr.alloc (.cells #[.int .u8 (tg : Int), .int .i64 (i1 : Int), .int .i64 (i2 : Int), .int .i64 (j1 : Int), .int .i64 (j2 : Int)] 63)) = w9 at *
                generalize wr.heap.size = P9 at *
                have hP9 : P9 ≠ B := by have := HB9.out; omega
                have HY : Hid (∀ z, Fr B w9 z → FiveAt z P9 0 ⟨tg, i1, i2, j1, j2⟩) := Lib.hid (fun z h => by
                  have hb := h.block hnew hP9 (by decide)
                  exact ⟨by rw [Lib.cell_of_heap hb]; rfl, by rw [Lib.cell_of_heap hb]; rfl, by rw [Lib.cell_of_heap hb]; rfl, by rw [Lib.cell_of_heap hb]; rfl, by rw [Lib.cell_of_heap hb]; rfl⟩)
                have HWS9 : Hid (∀ (z : World) (l : List UInt8) (s : ByteArray), Fr B w9 z → Bld B B l z → l.length + s.size ≤ 140737488355328 → Calls Tryd.prog 26 #[.string s, .pointer (some ⟨P2, 0, none⟩)] z
                    fun e w' => e = .returned .nilIface ∧ Bld B B (l ++ s.data.toList) w' ∧ Fr B w9 w') := Lib.hid (fun z l s h1 h2 h3 => (wsK B P2 l s z h2 (HF2.out z (hfa.trans h1)) h3 (by have := h1.size; have := hfa.size; omega)).mono fun e w' h => ⟨h.1, h.2.1, h1.trans h.2.2⟩)
                obtain ⟨y0, y1, y2, y3, y4⟩ := HY.out w9 (Fr.refl _ _)
                simp only [Nat.zero_add] at y0 y1 y2 y3 y4
                have z0 : w9.cell? ⟨P3, 0, none⟩ = some (.slice ap a.length acap) := by rw [Lib.cell_of_heap (HF3.out w9 hfa)]; rfl
                have z3 : w9.cell? ⟨P3, 3, none⟩ = some (.slice bp b.length bcap) := by rw [Lib.cell_of_heap (HF3.out w9 hfa)]; rfl
                have hf9 := hfa
                have bb1 : (i1 : Int) ≤ (i2 : Int) := by omega
                have bb2 : (i2 : Int) ≤ (acap : Int) := by omega
                have bb3 : (j1 : Int) ≤ (j2 : Int) := by omega
                have bb4 : (j2 : Int) ≤ (bcap : Int) := by omega
                have hll1 := part_lets a i1 i2
                have hll2 := part_lets b j1 j2
                have hll3 := linesT_len 45 (part a i1 i2)
                have hB9 : B ≤ w9.heap.size := by have := hfa.size; omega
                clear c0 c1 c2 c3 c4 hba hfj hnew hfa HB9
                go_quiet (fail)
                have hdn : Below w9.heap.size w9 (w9.drewN nq) := below_drewN (Below.refl _ _) nq
                have hfd : Fr B w9 (w9.drewN nq) := Fr.of_below hdn hB9
                have hbd9 := bld_below hbda hdn
                clear y0 y1 y2 y3 y4 z0 z3 hdn hbda
                generalize w9.drewN nq = w0 at *
                have y0 := (HY.out w0 hfd).1
                have z0 : w0.cell? ⟨P3, 0, none⟩ = some (.slice ap a.length acap) := by rw [Lib.cell_of_heap (HF3.out w0 (hf9.trans hfd))]; rfl
                have z3 : w0.cell? ⟨P3, 3, none⟩ = some (.slice bp b.length bcap) := by rw [Lib.cell_of_heap (HF3.out w0 (hf9.trans hfd))]; rfl
                by_cases htg : tg = 101
                · skip
                  have et : ((tg : Int) == 101) = true := by simp; omega
                  have HE : Hid (edT a b ⟨tg, i1, i2, j1, j2⟩ = linesT 32 (part a i1 i2)) := Lib.hid (by unfold edT; rw [if_pos htg])
                  have hel : (edT a b ⟨tg, i1, i2, j1, j2⟩).length = lets (part a i1 i2) := by rw [HE.out, linesT_len]
                  have HTG := Lib.hid htg
                  clear htg
                  by_cases hai : acap = i1
                  · as_aux_lemma =>
                      subst hai
                      obtain rfl : i2 = acap := by omega
                      have HPN : Hid (linesT 32 (part a i2 i2) = []) := Lib.hid (by rw [part_none a i2 i2 (Nat.le_refl _)]; rfl)
                      go_wp2_with fail
                      go_loopw [159] (fun v wq => v = .int .i64 0 ∧ Bld B B (Q ++ T) wq ∧ Fr B w9 wq) (fun _ _ => 0)
                      case atStart => exact ⟨rfl, hbd9, hfd⟩
                      case round =>
                        obtain ⟨rfl, hbt1, hft1⟩ := hrel
                        have hbE : Bld B B (Q ++ (T ++ edT a b ⟨tg, i2, i2, j1, j2⟩)) wr := by rw [HE.out, HPN.out, List.append_nil]; exact hbt1
                        go_wp2_with fail
                        go_roundw
                        case rel => exact ⟨j + 1, by omega, by go_num, by rw [HT2.out]; exact hbE, hf9.trans hft1⟩
                        case measure => simp [intOf]; omega
                  · skip
                    as_aux_lemma =>
                      obtain ⟨hLl1, hLc1, hLm1, sb1, soff1, hsp1, hsc1⟩ := str_cut (xs := part a i1 i2) (R := Fr B w9) (Fr.refl _ _) (fun z h => (HV1.out z (HWZ.out z (hf9.trans h))).cut i1 i2 hu1 hu2)
                      have HSC1 := Lib.hid hsc1
                      have HLl1 := Lib.hid hLl1
                      unfold maxLen at hLm1
                      rw [if_neg hai] at hsp1
                      clear hsc1 hLl1
                      go_wp2_with fail
                      generalize Option.map (fun x => x.add i1) ap = sp1 at *
                      go_loopw [159] (fun v wq => ∃ t : Nat, t ≤ i2 - i1 ∧ v = .int .i64 (t : Int) ∧ Bld B B (Q ++ T ++ linesT 32 ((part a i1 i2).take t)) wq ∧ Fr B w9 wq) (fun v _ => (i2 - i1) - (intOf v).toNat)
                      case atStart => exact ⟨0, Nat.zero_le _, rfl, by rw [show linesT 32 ((part a i1 i2).take 0) = [] from rfl, List.append_nil]; exact hbd9, hfd⟩
                      case round =>
                        obtain ⟨t1, ht1, rfl, hbt1, hft1⟩ := hrel
                        by_cases hlt1' : t1 < i2 - i1
                        · have hlti1 : (t1 : Int) < ((i2 - i1 : Nat) : Int) := by omega
                          obtain rfl := hsp1 (by omega)
                          have hltp1 : t1 < (part a i1 i2).length := by rw [← HLl1.out]; exact hlt1'
                          have cl1 := HSC1.out wr hft1 t1 (part a i1 i2)[t1] (List.getElem?_eq_getElem hltp1)
                          have hsz1 := lets_take (part a i1 i2) t1 hltp1
                          have HNL1 := Lib.hid (linesT_take 32 (part a i1 i2) t1 hltp1)
                          have hpl1' := linesT_len 32 ((part a i1 i2).take t1)
                          generalize linesT 32 ((part a i1 i2).take t1) = T1 at *
                          generalize (part a i1 i2)[t1] = x1 at *
                          go_wp2_with (go_at_call 26; go_must (refine (HWS9.out _ (Q ++ T ++ T1) _ hft1 hbt1 ?_).mono ?_))
                          · have e1 : (⟨#[32]⟩ ++ x1 : ByteArray).size = x1.size + 1 := by rw [ByteArray.size_append]; show 1 + _ = _; omega
                            first | omega | (rw [e1]; simp only [List.length_append]; omega)
                          first | rintro e w10 rfl hb10 hf10 | rintro e w10 ⟨rfl, hb10, hf10⟩
                          have HBN : Hid (Bld B B (Q ++ T ++ (T1 ++ [32] ++ x1.data.toList)) w10) := Lib.hid (by simpa using hb10)
                          clear hb10
                          go_wp2_with fail
                          go_roundw
                          case rel => exact ⟨t1 + 1, by omega, by go_num, by rw [HNL1.out]; exact HBN.out, hf10⟩
                          case measure => simp [intOf]; omega
                        · have hlti1 : ¬ (t1 : Int) < ((i2 - i1 : Nat) : Int) := by omega
                          have htk1 : (part a i1 i2).take t1 = (part a i1 i2) := List.take_of_length_le (by rw [← HLl1.out]; omega)
                          rw [htk1] at hbt1
                          clear htk1
                          have hbE : Bld B B (Q ++ (T ++ edT a b ⟨tg, i1, i2, j1, j2⟩)) wr := by rw [HE.out]; rw [← List.append_assoc]; exact hbt1
                          go_wp2_with fail
                          go_roundw
                          case rel => exact ⟨j + 1, by omega, by go_num, by rw [HT2.out]; exact hbE, hf9.trans hft1⟩
                          case measure => simp [intOf]; omega
                · have et : ((tg : Int) == 101) = false := by simp; omega
                  have HE : Hid (edT a b ⟨tg, i1, i2, j1, j2⟩ = linesT 45 (part a i1 i2) ++ linesT 43 (part b j1 j2)) := Lib.hid (by unfold edT; rw [if_neg htg])
                  have hel : (edT a b ⟨tg, i1, i2, j1, j2⟩).length = lets (part a i1 i2) + lets (part b j1 j2) := by rw [HE.out, List.length_append, linesT_len, linesT_len]
                  have hw5 : tagOf i1 i2 j1 j2 = tg ∧ tg ≠ 0 := by
                    rcases hu5 with h | h
                    · exact absurd h htg
                    · exact h.2
                  have HTG := Lib.hid htg
                  clear htg hu5
                  unfold tagOf at hw5
                  by_cases hA : i1 < i2
                  · by_cases hBj : j1 < j2
                    · as_aux_lemma =>
                        have htg : tg = 114 := by rw [if_pos ⟨hA, hBj⟩] at hw5; exact hw5.1.symm
                        clear hw5
                        have hai : ¬ acap = i1 := by omega
                        have et1 : ((tg : Int) == 114) = true := by simp; omega
                        clear htg
                        obtain ⟨hLl2, hLc2, hLm2, sb2, soff2, hsp2, hsc2⟩ := str_cut (xs := part a i1 i2) (R := Fr B w9) (Fr.refl _ _) (fun z h => (HV1.out z (HWZ.out z (hf9.trans h))).cut i1 i2 hu1 hu2)
                        have HSC2 := Lib.hid hsc2
                        have HLl2 := Lib.hid hLl2
                        unfold maxLen at hLm2
                        rw [if_neg hai] at hsp2
                        clear hsc2 hLl2
                        go_wp2_with fail
                        generalize Option.map (fun x => x.add i1) ap = sp2 at *
                        go_loopw [185] (fun v wq => ∃ t : Nat, t ≤ i2 - i1 ∧ v = .int .i64 (t : Int) ∧ Bld B B (Q ++ T ++ linesT 45 ((part a i1 i2).take t)) wq ∧ Fr B w9 wq) (fun v _ => (i2 - i1) - (intOf v).toNat)
                        case atStart => exact ⟨0, Nat.zero_le _, rfl, by rw [show linesT 45 ((part a i1 i2).take 0) = [] from rfl, List.append_nil]; exact hbd9, hfd⟩
                        case round =>
                          obtain ⟨t2, ht2, rfl, hbt2, hft2⟩ := hrel
                          by_cases hlt2' : t2 < i2 - i1
                          · have hlti2 : (t2 : Int) < ((i2 - i1 : Nat) : Int) := by omega
                            obtain rfl := hsp2 (by omega)
                            have hltp2 : t2 < (part a i1 i2).length := by rw [← HLl2.out]; exact hlt2'
                            have cl2 := HSC2.out wr hft2 t2 (part a i1 i2)[t2] (List.getElem?_eq_getElem hltp2)
                            have hsz2 := lets_take (part a i1 i2) t2 hltp2
                            have HNL2 := Lib.hid (linesT_take 45 (part a i1 i2) t2 hltp2)
                            have hpl2' := linesT_len 45 ((part a i1 i2).take t2)
                            generalize linesT 45 ((part a i1 i2).take t2) = T2 at *
                            generalize (part a i1 i2)[t2] = x2 at *
                            go_wp2_with (go_at_call 26; go_must (refine (HWS9.out _ (Q ++ T ++ T2) _ hft2 hbt2 ?_).mono ?_))
                            · have e1 : (⟨#[45]⟩ ++ x2 : ByteArray).size = x2.size + 1 := by rw [ByteArray.size_append]; show 1 + _ = _; omega
                              first | omega | (rw [e1]; simp only [List.length_append]; omega)
                            first | rintro e w10 rfl hb10 hf10 | rintro e w10 ⟨rfl, hb10, hf10⟩
                            have HBN : Hid (Bld B B (Q ++ T ++ (T2 ++ [45] ++ x2.data.toList)) w10) := Lib.hid (by simpa using hb10)
                            clear hb10
                            go_wp2_with fail
                            go_roundw
                            case rel => exact ⟨t2 + 1, by omega, by go_num, by rw [HNL2.out]; exact HBN.out, hf10⟩
                            case measure => simp [intOf]; omega
                          · have hlti2 : ¬ (t2 : Int) < ((i2 - i1 : Nat) : Int) := by omega
                            have htk2 : (part a i1 i2).take t2 = (part a i1 i2) := List.take_of_length_le (by rw [← HLl2.out]; omega)
                            rw [htk2] at hbt2
                            clear htk2
                            clear y0 z0 z3
                            have y0 := (HY.out wr hft2).1
                            have z0 : wr.cell? ⟨P3, 0, none⟩ = some (.slice ap a.length acap) := by rw [Lib.cell_of_heap (HF3.out wr (hf9.trans hft2))]; rfl
                            have z3 : wr.cell? ⟨P3, 3, none⟩ = some (.slice bp b.length bcap) := by rw [Lib.cell_of_heap (HF3.out wr (hf9.trans hft2))]; rfl
                            generalize wr = w11 at *
                            clear hai
                            have hai : ¬ bcap = j1 := by omega
                            obtain ⟨hLl3, hLc3, hLm3, sb3, soff3, hsp3, hsc3⟩ := str_cut (xs := part b j1 j2) (R := Fr B w9) (Fr.refl _ _) (fun z h => (HV2.out z (HWZ.out z (hf9.trans h))).cut j1 j2 hu3 hu4)
                            have HSC3 := Lib.hid hsc3
                            have HLl3 := Lib.hid hLl3
                            unfold maxLen at hLm3
                            rw [if_neg hai] at hsp3
                            clear hsc3 hLl3
                            go_wp2_with fail
                            generalize Option.map (fun x => x.add j1) bp = sp3 at *
                            go_loopw [211] (fun v wq => ∃ t : Nat, t ≤ j2 - j1 ∧ v = .int .i64 (t : Int) ∧ Bld B B (Q ++ T ++ linesT 45 (part a i1 i2) ++ linesT 43 ((part b j1 j2).take t)) wq ∧ Fr B w9 wq) (fun v _ => (j2 - j1) - (intOf v).toNat)
                            case atStart => exact ⟨0, Nat.zero_le _, rfl, by rw [show linesT 43 ((part b j1 j2).take 0) = [] from rfl, List.append_nil]; exact hbt2, hft2⟩
                            case round =>
                              obtain ⟨t3, ht3, rfl, hbt3, hft3⟩ := hrel
                              by_cases hlt3' : t3 < j2 - j1
                              · have hlti3 : (t3 : Int) < ((j2 - j1 : Nat) : Int) := by omega
                                obtain rfl := hsp3 (by omega)
                                have hltp3 : t3 < (part b j1 j2).length := by rw [← HLl3.out]; exact hlt3'
                                have cl3 := HSC3.out wr hft3 t3 (part b j1 j2)[t3] (List.getElem?_eq_getElem hltp3)
                                have hsz3 := lets_take (part b j1 j2) t3 hltp3
                                have HNL3 := Lib.hid (linesT_take 43 (part b j1 j2) t3 hltp3)
                                have hpl3' := linesT_len 43 ((part b j1 j2).take t3)
                                generalize linesT 43 ((part b j1 j2).take t3) = T3 at *
                                generalize (part b j1 j2)[t3] = x3 at *
                                go_wp2_with (go_at_call 26; go_must (refine (HWS9.out _ (Q ++ T ++ linesT 45 (part a i1 i2) ++ T3) _ hft3 hbt3 ?_).mono ?_))
                                · have e1 : (⟨#[43]⟩ ++ x3 : ByteArray).size = x3.size + 1 := by rw [ByteArray.size_append]; show 1 + _ = _; omega
                                  first | omega | (rw [e1]; simp only [List.length_append]; omega)
                                first | rintro e w10 rfl hb10 hf10 | rintro e w10 ⟨rfl, hb10, hf10⟩
                                have HBN : Hid (Bld B B (Q ++ T ++ linesT 45 (part a i1 i2) ++ (T3 ++ [43] ++ x3.data.toList)) w10) := Lib.hid (by simpa using hb10)
                                clear hb10
                                go_wp2_with fail
                                go_roundw
                                case rel => exact ⟨t3 + 1, by omega, by go_num, by rw [HNL3.out]; exact HBN.out, hf10⟩
                                case measure => simp [intOf]; omega
                              · have hlti3 : ¬ (t3 : Int) < ((j2 - j1 : Nat) : Int) := by omega
                                have htk3 : (part b j1 j2).take t3 = (part b j1 j2) := List.take_of_length_le (by rw [← HLl3.out]; omega)
                                rw [htk3] at hbt3
                                clear htk3
                                have hbE : Bld B B (Q ++ (T ++ edT a b ⟨tg, i1, i2, j1, j2⟩)) wr := by rw [HE.out]; rw [← List.append_assoc, ← List.append_assoc]; exact hbt3
                                go_wp2_with fail
                                go_roundw
                                case rel => exact ⟨j + 1, by omega, by go_num, by rw [HT2.out]; exact hbE, hf9.trans hft3⟩
                                case measure => simp [intOf]; omega
                    · as_aux_lemma =>
                        have htg : tg = 100 := by rw [if_neg (fun h => hBj h.2), if_pos hA] at hw5; exact hw5.1.symm
                        have HBN : Hid (linesT 43 (part b j1 j2) = []) := Lib.hid (by rw [part_none b j1 j2 (by omega)]; rfl)
                        have HE2 : Hid (edT a b ⟨tg, i1, i2, j1, j2⟩ = linesT 45 (part a i1 i2)) := Lib.hid (by rw [HE.out, HBN.out, List.append_nil])
                        clear hw5
                        have hai : ¬ acap = i1 := by omega
                        have et1 : ((tg : Int) == 114) = false := by simp; omega
                        have et2 : ((tg : Int) == 100) = true := by simp; omega
                        have et3 : ((tg : Int) == 105) = false := by simp; omega
                        clear htg HE
                        obtain ⟨hLl2, hLc2, hLm2, sb2, soff2, hsp2, hsc2⟩ := str_cut (xs := part a i1 i2) (R := Fr B w9) (Fr.refl _ _) (fun z h => (HV1.out z (HWZ.out z (hf9.trans h))).cut i1 i2 hu1 hu2)
                        have HSC2 := Lib.hid hsc2
                        have HLl2 := Lib.hid hLl2
                        unfold maxLen at hLm2
                        rw [if_neg hai] at hsp2
                        clear hsc2 hLl2
                        go_wp2_with fail
                        generalize Option.map (fun x => x.add i1) ap = sp2 at *
                        go_loopw [185] (fun v wq => ∃ t : Nat, t ≤ i2 - i1 ∧ v = .int .i64 (t : Int) ∧ Bld B B (Q ++ T ++ linesT 45 ((part a i1 i2).take t)) wq ∧ Fr B w9 wq) (fun v _ => (i2 - i1) - (intOf v).toNat)
                        case atStart => exact ⟨0, Nat.zero_le _, rfl, by rw [show linesT 45 ((part a i1 i2).take 0) = [] from rfl, List.append_nil]; exact hbd9, hfd⟩
                        case round =>
                          obtain ⟨t2, ht2, rfl, hbt2, hft2⟩ := hrel
                          by_cases hlt2' : t2 < i2 - i1
                          · have hlti2 : (t2 : Int) < ((i2 - i1 : Nat) : Int) := by omega
                            obtain rfl := hsp2 (by omega)
                            have hltp2 : t2 < (part a i1 i2).length := by rw [← HLl2.out]; exact hlt2'
                            have cl2 := HSC2.out wr hft2 t2 (part a i1 i2)[t2] (List.getElem?_eq_getElem hltp2)
                            have hsz2 := lets_take (part a i1 i2) t2 hltp2
                            have HNL2 := Lib.hid (linesT_take 45 (part a i1 i2) t2 hltp2)
                            have hpl2' := linesT_len 45 ((part a i1 i2).take t2)
                            generalize linesT 45 ((part a i1 i2).take t2) = T2 at *
                            generalize (part a i1 i2)[t2] = x2 at *
                            go_wp2_with (go_at_call 26; go_must (refine (HWS9.out _ (Q ++ T ++ T2) _ hft2 hbt2 ?_).mono ?_))
                            · have e1 : (⟨#[45]⟩ ++ x2 : ByteArray).size = x2.size + 1 := by rw [ByteArray.size_append]; show 1 + _ = _; omega
                              first | omega | (rw [e1]; simp only [List.length_append]; omega)
                            first | rintro e w10 rfl hb10 hf10 | rintro e w10 ⟨rfl, hb10, hf10⟩
                            have HBN : Hid (Bld B B (Q ++ T ++ (T2 ++ [45] ++ x2.data.toList)) w10) := Lib.hid (by simpa using hb10)
                            clear hb10
                            go_wp2_with fail
                            go_roundw
                            case rel => exact ⟨t2 + 1, by omega, by go_num, by rw [HNL2.out]; exact HBN.out, hf10⟩
                            case measure => simp [intOf]; omega
                          · have hlti2 : ¬ (t2 : Int) < ((i2 - i1 : Nat) : Int) := by omega
                            have htk2 : (part a i1 i2).take t2 = (part a i1 i2) := List.take_of_length_le (by rw [← HLl2.out]; omega)
                            rw [htk2] at hbt2
                            clear htk2
                            clear y0 z0 z3
                            have y0 := (HY.out wr hft2).1
                            have z0 : wr.cell? ⟨P3, 0, none⟩ = some (.slice ap a.length acap) := by rw [Lib.cell_of_heap (HF3.out wr (hf9.trans hft2))]; rfl
                            have z3 : wr.cell? ⟨P3, 3, none⟩ = some (.slice bp b.length bcap) := by rw [Lib.cell_of_heap (HF3.out wr (hf9.trans hft2))]; rfl
                            have hbE : Bld B B (Q ++ (T ++ edT a b ⟨tg, i1, i2, j1, j2⟩)) wr := by rw [HE2.out]; rw [← List.append_assoc]; exact hbt2
                            go_wp2_with fail
                            go_roundw
                            case rel => exact ⟨j + 1, by omega, by go_num, by rw [HT2.out]; exact hbE, hf9.trans hft2⟩
                            case measure => simp [intOf]; omega
                  · as_aux_lemma =>
                      have hBj : j1 < j2 := by
                        by_cases h : j1 < j2
                        · exact h
                        · rw [if_neg (fun h => hA h.1), if_neg hA, if_neg h] at hw5; exact absurd hw5.1.symm hw5.2
                      have htg : tg = 105 := by rw [if_neg (fun h => hA h.1), if_neg hA, if_pos hBj] at hw5; exact hw5.1.symm
                      have HAN : Hid (linesT 45 (part a i1 i2) = []) := Lib.hid (by rw [part_none a i1 i2 (by omega)]; rfl)
                      have HE2 : Hid (edT a b ⟨tg, i1, i2, j1, j2⟩ = linesT 43 (part b j1 j2)) := Lib.hid (by rw [HE.out, HAN.out, List.nil_append])
                      clear hw5
                      have hai : ¬ bcap = j1 := by omega
                      have et1 : ((tg : Int) == 114) = false := by simp; omega
                      have et2 : ((tg : Int) == 100) = false := by simp; omega
                      have et3 : ((tg : Int) == 105) = true := by simp; omega
                      clear htg HE
                      obtain ⟨hLl3, hLc3, hLm3, sb3, soff3, hsp3, hsc3⟩ := str_cut (xs := part b j1 j2) (R := Fr B w9) (Fr.refl _ _) (fun z h => (HV2.out z (HWZ.out z (hf9.trans h))).cut j1 j2 hu3 hu4)
                      have HSC3 := Lib.hid hsc3
                      have HLl3 := Lib.hid hLl3
                      unfold maxLen at hLm3
                      rw [if_neg hai] at hsp3
                      clear hsc3 hLl3
                      go_wp2_with fail
                      generalize Option.map (fun x => x.add j1) bp = sp3 at *
                      go_loopw [211] (fun v wq => ∃ t : Nat, t ≤ j2 - j1 ∧ v = .int .i64 (t : Int) ∧ Bld B B (Q ++ T ++ linesT 43 ((part b j1 j2).take t)) wq ∧ Fr B w9 wq) (fun v _ => (j2 - j1) - (intOf v).toNat)
                      case atStart => exact ⟨0, Nat.zero_le _, rfl, by rw [show linesT 43 ((part b j1 j2).take 0) = [] from rfl, List.append_nil]; exact hbd9, hfd⟩
                      case round =>
                        obtain ⟨t3, ht3, rfl, hbt3, hft3⟩ := hrel
                        by_cases hlt3' : t3 < j2 - j1
                        · have hlti3 : (t3 : Int) < ((j2 - j1 : Nat) : Int) := by omega
                          obtain rfl := hsp3 (by omega)
                          have hltp3 : t3 < (part b j1 j2).length := by rw [← HLl3.out]; exact hlt3'
                          have cl3 := HSC3.out wr hft3 t3 (part b j1 j2)[t3] (List.getElem?_eq_getElem hltp3)
                          have hsz3 := lets_take (part b j1 j2) t3 hltp3
                          have HNL3 := Lib.hid (linesT_take 43 (part b j1 j2) t3 hltp3)
                          have hpl3' := linesT_len 43 ((part b j1 j2).take t3)
                          generalize linesT 43 ((part b j1 j2).take t3) = T3 at *
                          generalize (part b j1 j2)[t3] = x3 at *
                          go_wp2_with (go_at_call 26; go_must (refine (HWS9.out _ (Q ++ T ++ T3) _ hft3 hbt3 ?_).mono ?_))
                          · have e1 : (⟨#[43]⟩ ++ x3 : ByteArray).size = x3.size + 1 := by rw [ByteArray.size_append]; show 1 + _ = _; omega
                            first | omega | (rw [e1]; simp only [List.length_append]; omega)
                          first | rintro e w10 rfl hb10 hf10 | rintro e w10 ⟨rfl, hb10, hf10⟩
                          have HBN : Hid (Bld B B (Q ++ T ++ (T3 ++ [43] ++ x3.data.toList)) w10) := Lib.hid (by simpa using hb10)
                          clear hb10
                          go_wp2_with fail
                          go_roundw
                          case rel => exact ⟨t3 + 1, by omega, by go_num, by rw [HNL3.out]; exact HBN.out, hf10⟩
                          case measure => simp [intOf]; omega
                        · have hlti3 : ¬ (t3 : Int) < ((j2 - j1 : Nat) : Int) := by omega
                          have htk3 : (part b j1 j2).take t3 = (part b j1 j2) := List.take_of_length_le (by rw [← HLl3.out]; omega)
                          rw [htk3] at hbt3
                          clear htk3
                          have hbE : Bld B B (Q ++ (T ++ edT a b ⟨tg, i1, i2, j1, j2⟩)) wr := by rw [HE2.out]; rw [← List.append_assoc]; exact hbt3
                          go_wp2_with fail
                          go_roundw
                          case rel => exact ⟨j + 1, by omega, by go_num, by rw [HT2.out]; exact hbE, hf9.trans hft3⟩
                          case measure => simp [intOf]; omega
              · have hjl : j = g.length := by omega
                have hlt2' : ¬ (j : Int) < (g.length : Int) := by omega
                subst hjl
                rw [List.take_length] at hbj
                go_wp2_with fail
                go_roundw
                case rel => exact ⟨k + 1, by omega, by simp, by go_num, by rw [HKT.out, HN2.out]; exact hbj, hfj⟩
                case measure => simp [intOf]; omega
    · have hkl : k = gs.length := by omega
      have hlt' : ¬ (k : Int) < (gs.length : Int) := by omega
      subst hkl
      go_wp2_with fail
      go_ret
      refine ⟨rfl, ?_, HEND.out _ hfr⟩
      have e : uniT a b x y gs = if gs.length = 0 then [] else headT x y ++ hunksT a b (gs.take gs.length) := by
        unfold uniT
        rw [List.take_length]
        by_cases h : gs = []
        · rw [if_pos h, if_pos (by rw [h]; rfl)]
        · rw [if_neg h, if_neg (by intro h0; exact h (List.eq_nil_of_length_eq_zero h0))]
      rw [HGS.out, e]
      exact hbk
end Go.Proofs.YtkbppaddghfgpaaDoor
