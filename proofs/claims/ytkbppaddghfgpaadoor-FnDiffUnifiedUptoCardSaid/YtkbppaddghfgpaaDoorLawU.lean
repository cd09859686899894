/- The law FnDiffUnified. -/
import Derived.Test.YtkbppaddghfgpaaDoorWriD
import Derived.Test.YtkbppaddghfgpaaDoorAsc
set_option linter.unusedVariables false
set_option linter.unusedSimpArgs false
namespace Go.Proofs.YtkbppaddghfgpaaDoor
open Go.RowKit Go.Maps

set_option maxHeartbeats 3200000 in
set_option maxRecDepth 100000 in
theorem unifiedLaw (v1 v2 : Value) (a b : List ByteArray) (x y : ByteArray) (n : Nat) (hn : n ≤ 255) (w : World) (ht : Tab w) (hv1 : RdC Value.string w v1 a) (hv2 : RdC Value.string w v2 b)
    (hsa : ∀ s ∈ a, s.size ≤ maxLen) (hsb : ∀ s ∈ b, s.size ≤ maxLen) (ha : lets a ≤ 1048576) (hb : lets b ≤ 1048576) (hx : x.size ≤ 1048576) (hy : y.size ≤ 1048576) :
    Calls Tryd.prog 3 #[v1, v2, .string x, .string y, .int .u8 (n : Int)] w fun e w' => e = .returned (.bool true) ∧ Below w.heap.size w w' := by
  have HV1 := Lib.hid hv1
  have HV2 := Lib.hid hv2
  have HSA := Lib.hid hsa
  have HSB := Lib.hid hsb
  have HT := Lib.hid ht
  have hla : a.length ≤ 1048576 := Nat.le_trans (len_lets a) ha
  have hlb : b.length ≤ 1048576 := Nat.le_trans (len_lets b) hb
  have f1 : decide ((2147483647 : Int) < (x.size : Int)) = false := decide_eq_false (by omega)
  have f2 : decide ((2147483647 : Int) < (y.size : Int)) = false := decide_eq_false (by omega)
  have g1 : decide (2147483647 < x.size) = false := decide_eq_false (by omega)
  have g2 : decide (2147483647 < y.size) = false := decide_eq_false (by omega)
  obtain ⟨x1, x3, _, _, rfl, hx'⟩ := hv1
  obtain ⟨y1, y3, _, _, rfl, hy'⟩ := hv2
  clear hx' hy' hsa hsb ht
  go_enter Tryd.func3, Tryd.ntmps3
  go_wp2_with (go_at_call 4; go_must (refine (fitsD _ a _ HV1.out HSA.out).mono ?_))
  rintro e w1 ⟨⟨b1, rfl, hf1⟩, rfl⟩
  cases b1 with
  | false =>
    clear hf1
    go_wp2_with fail
    go_ret
    exact ⟨rfl, Below.refl _ _⟩
  | true =>
    clear hf1
    go_wp2_with (go_at_call 4; go_must (refine (fitsD _ b _ HV2.out HSB.out).mono ?_))
    rintro e w1 ⟨⟨b2, rfl, hf2⟩, rfl⟩
    cases b2 with
    | false =>
      clear hf2
      go_wp2_with fail
      go_ret
      exact ⟨rfl, Below.refl _ _⟩
    | true =>
      clear hf2
      cases hx0 : x.toList.isEmpty with
      | true =>
        go_wp2_with (go_at_call 6; go_must (refine (diffAwake _).mono ?_))
        first | rintro e w6 rfl hb6 | rintro e w6 ⟨rfl, hb6⟩
        go_wp2_with fail
        go_ret
        exact ⟨rfl, hb6⟩
      | false =>
        cases hy0 : y.toList.isEmpty with
        | true =>
          go_wp2_with (go_at_call 6; go_must (refine (diffAwake _).mono ?_))
          first | rintro e w6 rfl hb6 | rintro e w6 ⟨rfl, hb6⟩
          go_wp2_with fail
          go_ret
          exact ⟨rfl, hb6⟩
        | false =>
          go_wp2_with (go_at_call 5; go_must (refine (ascii x _ (by omega)).mono ?_))
          first | rintro e w6 rfl rfl | rintro e w6 ⟨rfl, rfl⟩
          cases hpx : prnS x with
          | false =>
            go_wp2_with (go_at_call 6; go_must (refine (diffAwake _).mono ?_))
            first | rintro e w6 rfl hb6 | rintro e w6 ⟨rfl, hb6⟩
            go_wp2_with fail
            go_ret
            exact ⟨rfl, hb6⟩
          | true =>
            go_wp2_with (go_at_call 5; go_must (refine (ascii y _ (by omega)).mono ?_))
            first | rintro e w6 rfl rfl | rintro e w6 ⟨rfl, rfl⟩
            cases hpy : prnS y with
            | false =>
              go_wp2_with (go_at_call 6; go_must (refine (diffAwake _).mono ?_))
              first | rintro e w6 rfl hb6 | rintro e w6 ⟨rfl, hb6⟩
              go_wp2_with fail
              go_ret
              exact ⟨rfl, hb6⟩
            | true =>
              have HU := Lib.hid (implUnified (.slice x1 a.length x3) (.slice y1 b.length y3) a b x y n hn w HT.out HV1.out HV2.out (by omega) (by omega) hla hlb HSA.out HSB.out (by omega) (by omega) hx0 hy0)
              have HG : Hid (∀ z, Below w.heap.size w z → Calls Tryd.prog 9 #[.slice x1 a.length x3, .slice y1 b.length y3, .int .i64 (n : Int)] z fun e w' => SaidGs (grp n (edits (gmb a b (b2jL b)))) z w' e) := Lib.hid (fun z h => diffGroups _ _ a b n hn z (HV1.out.below h) (HV2.out.below h) hla hlb HSA.out HSB.out)
              have HOK := Lib.hid (grp_okG (n := n) (edits_right (a := a) (b := b) (L := b2jL b) (fun v j h => b2j_mem b h)))
              have hlen := edits_len2 (a := a) (L := b2jL b) (fun v j h => b2j_mem b h)
              have HUL : Hid ((headT x y).length + (hunksT a b (grp n (edits (gmb a b (b2jL b))))).length ≤ 281474976710656 / 2) := Lib.hid (uni_len (a := a) (b := b) (x := x) (y := y) (n := n) (by omega) (by omega) (edOk_inc (edits_right (a := a) (b := b) (L := b2jL b) (fun v j h => b2j_mem b h))).2 (by omega) (by omega) (by omega) (by omega) (by omega))
              generalize grp n (edits (gmb a b (b2jL b))) = gs at *
              have HS : Hid (∀ z v3, Below w.heap.size w z → RdL z v3 gs → Calls Tryd.prog 8 #[.slice x1 a.length x3, .slice y1 b.length y3, .string x, .string y, v3] z fun e w' => e = .returned (.string ⟨(uniT a b x y gs).toArray⟩) ∧ Below z.heap.size z w') := Lib.hid (fun z v3 h1 h2 => specUnified x y _ _ v3 gs z (HV1.out.below h1) (HV2.out.below h1) h2 HOK.out HUL.out (by omega) (by omega) (by omega) (by omega))
              generalize uniT a b x y gs = U at *
              clear hx0 hy0 hlen
              go_wp2_with (go_at_call 7; go_must (refine HU.out.mono ?_))
              first | rintro e w2 rfl hb2 | rintro e w2 ⟨rfl, hb2⟩
              go_wp2_with (go_at_call 9; go_must (refine (HG.out _ hb2).mono ?_))
              rintro e w3 ⟨⟨gv, rfl, hgr⟩, hb3⟩
              have hb3' := hb2.trans (hb3.mono hb2.size)
              have HGR := Lib.hid hgr
              clear hgr
              go_wp2_with (go_at_call 8; go_must (refine (HS.out _ _ hb3' HGR.out).mono ?_))
              first | rintro e w4 rfl hb4 | rintro e w4 ⟨rfl, hb4⟩
              have hb4' := hb3'.trans (hb4.mono hb3'.size)
              go_wp2_with (go_at_call 6; go_must (refine (diffAwake _).mono ?_))
              first | rintro e w6 rfl hb6 | rintro e w6 ⟨rfl, hb6⟩
              go_wp2_with fail
              go_ret
              exact ⟨rfl, hb4'.trans (hb6.mono hb4'.size)⟩
end Go.Proofs.YtkbppaddghfgpaaDoor
