/- wrapDesc. -/
import Derived.Test.YtojlpfakdodnfaaGreatDoorLpd
import Derived.Test.YtojlpfakdodnfaaGreatDoorWp
import Derived.Test.YtojlpfakdodnfaaGreatDoorWs
import Derived.Maps.OwnSet
import Derived.Deep.RegionLaw
set_option linter.unusedVariables false
set_option linter.unusedSimpArgs false
namespace Go.Proofs.YtojlpfakdodnfaaGreatDoor
open Go.RowKit Go.Maps Go.Sort

def CW : Nat → Value → Value → Prop := fun _ _ _ => True
/-- v, ok := m[x]. -/
theorem lookOk {w : World} {b n : Nat} {l : List Ent} (h : w.ownsMap Tryz.prog 9 strE b n (mD l)) {x : ByteArray} (hx : x.size ≤ maxLen) :
    ∃ s, Sem.run Tryz.prog (Instr.lookup 72 (.map (some b)) (.string x) true) w = .ok (.tuple #[.string s, .bool (look x (fit l)).isSome]) w := by
  obtain ⟨v, ps, hrun, hv⟩ := h.look_ok (t := 72) lawS Tryz.underlying72 (z := .string ⟨#[]⟩) (show (zeroValue 9).run Tryz.prog w = .ok (.string ⟨#[]⟩) w by kernel_rfl) (strE_of (s := ⟨#[]⟩) (by decide)) (key_of hx)
  obtain ⟨s, rfl, hs, _⟩ := plainElem_string_inv Tryz.underlying9 hv
  rw [mD_has] at hrun
  exact ⟨s, hrun⟩
theorem look_some {l : List Ent} {x : ByteArray} : (look x (fit l)).isSome = true ↔ ∃ y ∈ l, y.1 = x := by
  constructor
  · intro h
    cases hl : look x (fit l) with
    | none => rw [hl] at h; cases h
    | some t => exact ⟨(x, t), fit_look_mem (look_mem hl), rfl⟩
  · rintro ⟨y, hy, rfl⟩
    obtain ⟨z, hz, e⟩ := key_fit hy
    rw [← e, mem_look (v := z.2) (fit_srt l).once hz]
    rfl
/-- All labels have come up. -/
theorem coll_done {L O : List Ent} {left : Lit → Bool} (hc : Collected (mD L) left (O.map fun z => bs z.1)) (hl : ∀ kl, left kl = false) (hv : ∀ z ∈ O, look z.1 (fit L) = some z.2) : (O.map (·.1)).Nodup ∧ ∀ x, x ∈ O ↔ x ∈ fit L := by
  refine ⟨?_, fun x => ⟨fun hx => look_mem (hv x hx), fun hx => ?_⟩⟩
  · have h1 := hc.1
    unfold List.Nodup at h1 ⊢
    rw [List.pairwise_map] at h1 ⊢
    exact h1.imp fun hn e => hn (congrArg bs e)
  · have h1 := coll_perm hc hl
    have h2 : bs x.1 ∈ O.map fun z => bs z.1 := h1.mem_iff.2 (List.mem_map.2 ⟨x.1, List.mem_map.2 ⟨x, hx, rfl⟩, rfl⟩)
    obtain ⟨z, hz, e⟩ := List.mem_map.1 h2
    have e1 := bs_inj e
    have e2 := hv z hz
    have e3 := mem_look (fit_srt L).once hx
    rw [e1, e3] at e2
    have e4 : x = z := Prod.ext e1.symm (Option.some.inj e2)
    rw [e4]; exact hz
theorem clash_false {D : Dsc} {L O : List Ent} (hd : ∀ z ∈ O, z.1 ∉ D.keys) (hm : ∀ x, x ∈ O ↔ x ∈ fit L) : clash D L = false :=
  List.any_eq_false.2 fun x hx => by rw [inB_false (hd x ((hm x).2 hx))]; simp
theorem clash_true {D : Dsc} {L O : List Ent} {x t : ByteArray} (hs : (look x (fit (fit D.cons ++ O))).isSome = true) (hn : bs x ∉ O.map fun z => bs z.1) (hv : look x (fit L) = some t) : wrapFine D L = false := by
  have hk : x ∈ D.keys := by
    obtain ⟨y, hy, e⟩ := look_some.1 hs
    rcases List.mem_append.1 hy with hy | hy
    · exact List.mem_map.2 ⟨y, hy, e⟩
    · exact absurd (List.mem_map.2 ⟨y, hy, congrArg bs e⟩) hn
  cases hf : wrapFine D L with
  | false => rfl
  | true => exact absurd hk (clash_none (fine_clash hf) (x, t) (look_mem hv))
theorem not_key {D : Dsc} {O : List Ent} {x : ByteArray} (hs : (look x (fit (fit D.cons ++ O))).isSome = false) : x ∉ D.keys := fun hk => by
  obtain ⟨y, hy, e⟩ := List.mem_map.1 hk
  rw [look_some.2 ⟨y, List.mem_append_left _ hy, e⟩] at hs
  cases hs
theorem TB.alloc {w x : World} (h : TB w x) (o : Obj) : TB w (x.alloc o) := Below.alloc h (Below.size h) o
def SaidWr (D : Dsc) (nm : ByteArray) (L : List Ent) (w w' : World) (e : Ending) : Prop :=
  ∃ P, e = .returned (.pointer (some ⟨P, 0, none⟩)) ∧ Stp w w' ∧ (wrapFine D L = true → Good w' P CW (wrapD D nm (fit L))) ∧ (wrapFine D L = false → Bad w' P)
set_option maxHeartbeats 12800000 in
set_option maxRecDepth 100000 in
theorem wrapK (D : Dsc) (CQ : Nat → Value → Value → Prop) (P : Nat) (p : ByteArray) (lp : Option Nat) (L : List Ent) (w : World) (hg : Good w P CQ D) (hM : MapIs w lp L) (hs : Small D) (hV : Vars w) (hS : SayOk D) (hnm : plain (p ++ D.name) = true) (hL : PlainAll L) (hLT : ∀ x ∈ L, Tiny x) (hLl : L.length ≤ 1048576) (hp : p.size ≤ 1048576) :
    Calls Tryz.prog 53 #[.pointer (some ⟨P, 0, none⟩), .string p, .map lp] w fun e w' => SaidWr D (p ++ D.name) L w w' e := by
  have hmm := @run_makeMap Tryz.prog
  have HMM := Lib.hid hM
  have HS := Lib.hid hs
  have HVS := Lib.hid hV
  have HSY := Lib.hid hS
  have HNM := Lib.hid hnm
  have HPL := Lib.hid hL
  have HLT := Lib.hid hLT
  have HLL := Lib.hid hLl
  have HPZ := Lib.hid hp
  obtain ⟨Q, vv, lc, psv, _, hD, hQ, hvv, hps⟩ := hg
  have HD := Lib.hid hD
  have HQ := Lib.hid hQ
  have HVV := Lib.hid hvv
  obtain ⟨a2, cap2, b2, o2, rfl, hcp2, hmx2, hp2, hc2⟩ := hps
  unfold maxLen at hmx2
  have HC := Lib.hid hc2
  have HKT : Hid (∀ x ∈ fit D.cons, Tiny x) := Lib.hid (fun x hx => hs.cons x (fit_look_mem hx))
  have hKl : (fit D.cons).length ≤ 1048576 := Nat.le_trans (fit_len _) hs.nc1
  have KS : Hid (∀ x, Below w.heap.size w x → x.cell? ⟨P, 0, none⟩ = some (.string D.name) ∧ x.cell? ⟨P, 1, none⟩ = some (.string D.help) ∧ x.cell? ⟨P, 2, none⟩ = some (.string D.unit) ∧ x.cell? ⟨P, 3, none⟩ = some (.slice a2 (fit D.cons).length cap2) ∧ x.cell? ⟨P, 4, none⟩ = some (.pointer (some ⟨Q, 0, none⟩)) ∧ x.cell? ⟨P, 7, none⟩ = some .nilIface) := Lib.hid (fun x hx => by
    have h := (Chg.of_below hx Non).obj hD (fun h => h)
    refine ⟨?_, ?_, ?_, ?_, ?_, ?_⟩ <;> (rw [Lib.cell_of_heap h]; rfl))
  have HPW : Hid (P < w.heap.size) := Lib.hid (Array.getElem?_eq_some_iff.1 hD).1
  clear hs hV hS hnm hL hLT hLl hp hM hc2 hD hQ hvv
  have hown0 := World.ownsMap_made (H := Unit) w Tryz.prog 9 strE
  have hb0 := (Below.refl _ w).alloc (Nat.le_refl _) (.map #[] 0)
  obtain ⟨_, _, _, m3, _, _⟩ := KS.out _ hb0
  go_enter Tryz.func53, Tryz.ntmps53
  go_wp2_with fail
  go_loopw [21] (fun iv wx => ∃ k : Nat, k ≤ (fit D.cons).length ∧ iv = .int .i64 (k : Int) ∧ wx.ownsMap Tryz.prog 9 strE w.heap.size k (mD ((fit D.cons).take k)) ∧ Below w.heap.size w wx) (fun iv _ => (fit D.cons).length - (intOf iv).toNat)
  case atStart => exact ⟨0, Nat.zero_le _, rfl, hown0, hb0⟩
  case round =>
    obtain ⟨k, hk, rfl, hown, hbr⟩ := hrel
    have HBR := Lib.hid hbr
    have HOWN := Lib.hid hown
    have hwr := hbr.size
    by_cases hlt : k < (fit D.cons).length
    · have hlti : (k : Int) < ((fit D.cons).length : Int) := by omega
      obtain rfl : a2 = some ⟨b2, o2, none⟩ := by
        rcases hp2 with h | h
        · rw [h] at hlt; exact absurd hlt (Nat.not_lt_zero _)
        · exact h
      obtain ⟨pv, c1, hP⟩ := HC.out k (fit D.cons)[k] (List.getElem?_eq_getElem hlt)
      have d1 := (hbr.cell (p := ⟨b2, o2 + k, none⟩) (World.block_lt_of_cell? w _ c1)).trans c1
      obtain ⟨z1, z2⟩ := HKT.out (fit D.cons)[k] (List.getElem_mem _)
      have HTK : Hid (mD ((fit D.cons).take (k + 1)) = (mD ((fit D.cons).take k)).put (keyL (fit D.cons)[k].1) (litS (fit D.cons)[k].2)) := Lib.hid (by rw [List.take_succ_eq_append_getElem hlt, mD_snoc])
      have hP2 := hP.below hbr
      clear c1 hP hbr hown
      generalize (fit D.cons)[k] = y at *
      obtain ⟨s, t⟩ := y
      simp only at z1 z2 HTK
      obtain ⟨pb, bn, bv, rfl, g1, g2, g3⟩ := hP2
      have e1 : wr.cell? ⟨pb, 0, none⟩ = some (.pointer (some ⟨bn, 0, none⟩)) := by rw [Lib.cell_of_heap g1]; rfl
      have e2 : wr.cell? ⟨pb, 1, none⟩ = some (.pointer (some ⟨bv, 0, none⟩)) := by rw [Lib.cell_of_heap g1]; rfl
      have e3 : wr.cell? ⟨bn, 0, none⟩ = some (.string s) := by rw [Lib.cell_of_heap g2]; rfl
      have e4 : wr.cell? ⟨bv, 0, none⟩ = some (.string t) := by rw [Lib.cell_of_heap g3]; rfl
      have HZ : Hid (s.size ≤ maxLen ∧ t.size ≤ maxLen ∧ k < maxLen) := Lib.hid (by unfold maxLen; exact ⟨by omega, by omega, by omega⟩)
      clear g1 g2 g3 z1 z2
      obtain ⟨w9, hrun9, hown9, hg9⟩ := World.ownsMap.update (((Chg.refl Non wr).drew).map HOWN.out (fun h => h)) lawS Tryz.underlying72 HZ.out.2.2 (key_of HZ.out.1) (strE_of HZ.out.2.1)
      have hb9 : Below w.heap.size w w9 := (HBR.out.drew).grown hg9 hwr (fun q hq => by injection hq with hq; omega)
      have HOWN9 := Lib.hid hown9
      clear hown9 hg9
      go_upto_region 5 with fail
      go_region_law (fail)
      all_goals go_wp2_with fail
      all_goals go_roundw
      all_goals first
        | exact ⟨k + 1, by omega, by go_num, by rw [HTK.out]; exact HOWN9.out, hb9⟩
        | (simp [intOf]; omega)
    · have hlti : ¬ (k : Int) < ((fit D.cons).length : Int) := by omega
      have hkl : k = (fit D.cons).length := by omega
      subst hkl
      rw [List.take_length] at hown
      have hML := HMM.out.below hbr
      clear HBR HOWN hown0 hb0 m3 hlt hlti hk
      generalize wr = w1 at *
      have HB1 := Lib.hid hbr
      have HPN : Hid (P < w.heap.size ∧ w.heap.size < w1.heap.size) := Lib.hid ⟨HPW.out, hown.lt⟩
      have hcl : ∀ b, lp = some b → b < w.heap.size := HMM.out.lt
      have HLB := Lib.hid hcl
      go_upto_block 2 with (at_range; go_must (refine range_lab L lp rfl _ rfl rfl hML ?_); intro wQ hrg hgQ hsQ)
      go_frame
      have hbQ : Below w.heap.size w wQ := hbr.grown hgQ hwr (fun q h => by cases h)
      have hownQ := ((Chg.refl Non w1).grown hgQ (fun q h => by cases h)).map hown (fun h => h)
      clear hgQ hsQ hML hown hbr hcl
      generalize hr2 : w1.heap.size = r2 at hrg ⊢
      have HR2 : Hid (w.heap.size < r2) := Lib.hid (by rw [← hr2]; exact HPN.out.2)
      clear hr2 hwr
      go_cut [] (fun wx => ∃ O : List Ent, wx.ownsMap Tryz.prog 9 strE w.heap.size ((fit D.cons).length + O.length) (mD (fit D.cons ++ O)) ∧ Hid (clash D L = false ∧ (O.map (·.1)).Nodup ∧ ∀ x, x ∈ O ↔ x ∈ fit L) ∧ Below w.heap.size w wx)
      case first =>
        go_wp2_with fail
        go_loopw [] (fun wx => ∃ (left : Lit → Bool) (cnt : Nat) (O : List Ent), Rng wx lp r2 L left cnt ∧ wx.ownsMap Tryz.prog 9 strE w.heap.size ((fit D.cons).length + O.length) (mD (fit D.cons ++ O)) ∧ O.length + cnt ≤ Maps.size (mD L) ∧ Hid (Collected (mD L) left (O.map fun z => bs z.1)) ∧ Hid (∀ z ∈ O, look z.1 (fit L) = some z.2) ∧ Hid (∀ z ∈ O, z.1 ∉ D.keys) ∧ Below w.heap.size w wx) (fun wx => rleft wx lp r2)
        case atStart => exact ⟨_, _, [], hrg, by simpa using hownQ, by simp, Lib.hid (Collected.start _), Lib.hid (by simp), Lib.hid (by simp), hbQ⟩
        case round =>
          obtain ⟨left, cnt, O, hrgx, hown, hcnt, HCO, HLK, HDJ, hbr⟩ := hrel
          have HBR := Lib.hid hbr
          have HOWN := Lib.hid hown
          have HCNT := Lib.hid hcnt
          clear hrg hownQ hbQ hown hbr hcnt
          go_wp2_with (at_next; go_must (refine next_rng L wr lp r2 cnt left rfl _ rfl rfl hrgx ?_ ?_))
          · intro hl0
            have HLF : Hid (∀ kl, left kl = false) := Lib.hid hl0
            clear hl0
            go_wp2_with fail
            go_meet
            case rel =>
              have hd := coll_done HCO.out HLF.out HLK.out
              exact ⟨O, HOWN.out, Lib.hid ⟨clash_false HDJ.out hd.2, hd.1, hd.2⟩, HBR.out⟩
          · intro x t wy hN
            have hen := hN.entry
            have HRL := Lib.hid hrgx.left_eq
            obtain ⟨cnt', hrg1, hlt1⟩ := hN.rng
            have HVL := Lib.hid hN.val
            have HNI : Hid (bs x ∉ O.map fun z => bs z.1) := Lib.hid (fun h => by have h2 := ((HCO.out.2 (bs x)).1 h).2; rw [show (.string (bs x) : Lit) = keyL x from rfl, hN.here] at h2; cases h2)
            have HCO2 : Hid (Collected (mD L) (fun z => left z && !z.sameKey (keyL x)) ((O.map fun z => bs z.1) ++ [bs x])) := Lib.hid (HCO.out.step (x := bs x) hN.here hN.at')
            have hcY : Chg (fun i => i = r2) wr wy := (Chg.refl (fun i => i = r2) wr).grown hN.grown (fun q hq => by injection hq with hq; exact .inl hq.symm)
            have hownY := hcY.map HOWN.out (fun (e : w.heap.size = r2) => by have := HR2.out; omega)
            have hty : TB w wy := HBR.out.trans (hcY.below (fun i hi => by rw [hi]; exact Nat.le_of_lt HR2.out) HBR.out.size)
            have HTI : Hid (Tiny (x, t)) := Lib.hid (HLT.out (x, t) (fit_look_mem (look_mem hN.val)))
            have HXZ := Lib.hid hN.sizeK
            obtain ⟨sv, hlook⟩ := lookOk hownY hN.sizeK
            have HOWNY := Lib.hid hownY
            have HRG1 := Lib.hid hrg1
            have HLT1 := Lib.hid hlt1
            clear hN hrgx hcY hownY hrg1 hlt1
            cases hbb : (look x (fit (fit D.cons ++ O))).isSome with
            | true =>
              rw [hbb] at hlook
              have HWF := Lib.hid (clash_true hbb HNI.out HVL.out)
              clear hbb HCO2 HNI HCO HLK HDJ
              go_upto_region 12 with fail
              go_region_held3 (fun x => x.cell? ⟨P, 0, none⟩ = some (.string D.name) ∧ x.cell? ⟨P, 1, none⟩ = some (.string D.help) ∧ x.cell? ⟨P, 2, none⟩ = some (.string D.unit) ∧ x.cell? ⟨P, 3, none⟩ = some (.slice a2 (fit D.cons).length cap2) ∧ x.cell? ⟨P, 4, none⟩ = some (.pointer (some ⟨Q, 0, none⟩)) ∧ x.cell? ⟨P, 7, none⟩ = some .nilIface)
                (exact KS.out _ (show TB w _ from by repeat (first | assumption | apply TB.drew | apply TB.alloc | refine TB.stp (by assumption) ?_)))
                ((go_at_call 60
                  refine (errNew _ _).mono ?_
                  rintro e w6 ⟨⟨er, rfl, et, ex, rfl⟩, hb6⟩
                  have hs6 : Stp _ w6 := hb6
                  clear hb6))
              all_goals go_wp2_with fail
              all_goals go_ret
              all_goals exact ⟨_, rfl, (show TB w _ from by repeat (first | assumption | apply TB.drew | apply TB.alloc | refine TB.stp (by assumption) ?_)), (fun h => by rw [HWF.out] at h; cases h), fun _ => ⟨.iface et ex, by rw [Lib.cell_of_heap (heap_alloc_new _ _)]; rfl, et, ex, rfl⟩⟩
            | false =>
              rw [hbb] at hlook
              have HNK := Lib.hid (not_key hbb)
              have hkey := key_of HXZ.out
              have hval := strE_of (s := t) (by have := HTI.out.2; unfold maxLen; simp only at this; omega)
              have HSZ : Hid ((fit D.cons).length + O.length < maxLen) := Lib.hid (by
                have h1 := HMM.out.size_le
                have h2 := HLL.out
                have h3 := HCNT.out
                unfold maxLen; omega)
              have HML2 : Hid (mD (fit D.cons ++ (O ++ [(x, t)])) = (mD (fit D.cons ++ O)).put (keyL x) (litS t)) := Lib.hid (by rw [← List.append_assoc, mD_snoc])
              clear hbb
              go_wp2_with (at_mapUpdate; go_must (refine wpList_mapUpdate_own _ rfl _ _ _ 72 rfl 9 9 lawS Tryz.underlying72 strE w.heap.size ((fit D.cons).length + O.length) (mD (fit D.cons ++ O)) rfl HOWNY.out HSZ.out _ _ _ rfl rfl hkey _ [] hval ?_))
              intro w9 hown9 hg9
              have hrg9 := HRG1.out.kept hg9 (fun b hb e => by injection e with e; have := HLB.out b hb; omega) (fun e => by injection e with e; have := HR2.out; omega)
              have hb9 : Below w.heap.size w w9 := Below.grown hty hg9 (Below.size hty) (fun q hq => by injection hq with hq; omega)
              have HRG9 := Lib.hid hrg9
              have HOWN9 := Lib.hid hown9
              clear hown9 hg9 hrg9 hlook hen
              go_wp2_with fail
              go_roundw
              case rel =>
                refine ⟨_, cnt', O ++ [(x, t)], HRG9.out, ?_, ?_, Lib.hid (by rw [List.map_append]; exact HCO2.out), Lib.hid (fun z hz => ?_), Lib.hid (fun z hz => ?_), hb9⟩
                · rw [HML2.out, List.length_append]; exact HOWN9.out
                · have h1 := HLT1.out
                  have h2 := HCNT.out
                  rw [List.length_append]
                  simp only [List.length_cons, List.length_nil]
                  omega
                · rcases List.mem_append.1 hz with hz | hz
                  · exact HLK.out z hz
                  · rw [List.mem_singleton.1 hz]; exact HVL.out
                · rcases List.mem_append.1 hz with hz | hz
                  · exact HDJ.out z hz
                  · rw [List.mem_singleton.1 hz]; exact HNK.out
              case measure => rw [HRG9.out.left_eq, HRL.out]; exact HLT1.out
      case rest =>
        obtain ⟨O, hown, HDN, hbr⟩ := hcut
        generalize wc = w4 at *
        have HFITE : Hid (fit (fit D.cons ++ O) = fit (fit D.cons ++ fit L)) := Lib.hid (wrap_fit HDN.out.1 HDN.out.2.1 HDN.out.2.2)
        have HTW : Hid (∀ x, TB w4 x → Below w.heap.size w x) := Lib.hid (fun x hx => hbr.trans (Below.mono hx hbr.size))
        have HOL : Hid (O.length ≤ 1048576) := Lib.hid (by
          have h1 : O.Nodup := by
            have h2 := HDN.out.2.1
            unfold List.Nodup at h2 ⊢
            rw [List.pairwise_map] at h2
            exact h2.imp fun hne e => hne (by rw [e])
          have h3 : O.Perm (fit L) := (List.perm_ext_iff_of_nodup h1 (once_nodup (fit_srt L).once)).2 HDN.out.2.2
          rw [h3.length_eq]
          exact Nat.le_trans (fit_len L) HLL.out)
        have HTN : Hid (∀ x ∈ fit D.cons ++ O, Tiny x) := Lib.hid (fun x hx => by
          rcases List.mem_append.1 hx with h | h
          · exact HKT.out x h
          · exact HLT.out x (fit_look_mem ((HDN.out.2.2 x).1 h)))
        have HMI : Hid (MapIs w4 (some w.heap.size) (fit D.cons ++ O)) := Lib.hid (.inr ⟨_, rfl, by rw [List.length_append]; exact hown⟩)
        have HNZ : Hid ((p ++ D.name).size ≤ 4194304) := Lib.hid (by rw [ByteArray.size_append]; have := HPZ.out; have := HS.out.name1; omega)
        have HND : Hid (∀ (x : World) (ob ub : Nat), TB w4 x → x.cell? ⟨ob, 0, none⟩ = some (.func (.func 66) #[] #[.pointer (some ⟨ub, 0, none⟩)]) → x.cell? ⟨ub, 0, none⟩ = some (.string D.unit) →
            Calls Tryz.prog 54 #[.agg #[], .string (p ++ D.name), .string D.help, .iface 78 (.pointer (some ⟨Q, 0, none⟩)), .map (some w.heap.size), .slice (some ⟨ob, 0, none⟩) 1 1] x fun e w' => SaidD CW (wrapD D (p ++ D.name) O) x w' e) := Lib.hid (fun x ob ub hx h1 h2 => by
          have hs := HS.out
          have hb := HTW.out x hx
          have hV := HVS.out.below hb
          exact newDescS (wrapD D (p ++ D.name) O) CW _ _ (some w.heap.size) ob ub x (.inr ⟨rfl, Q, vv, lc, rfl, (Chg.of_below hb Non).obj HQ.out (fun h => h), HVV.out.below hb, trivial⟩) h1 h2 hs.vars (HMI.out.below hx) (fun y hy => tiny_fine (HTN.out y hy)) (by have := HNZ.out; show (p ++ D.name).size ≤ maxLen; unfold maxLen; omega) ⟨HNZ.out, hs.help, hs.unit⟩ (fun y hy => HTN.out y hy) (by show (fit D.cons ++ O).length ≤ _; rw [List.length_append]; have := HOL.out; omega) hs.nv hV.ut hV.ev hV.sep)
        have ht4 : TB w4 w4 := TB.refl _
        have hadd : ∀ z, (Op.stringOp .add p D.name).run Tryz.prog z = .ok (.string (p ++ D.name)) z := fun z => run_string_add_sum z _ _ (by have := HPZ.out; have := HS.out.name1; omega)
        have HB4 := Lib.hid hbr
        clear hown hbr hrg hownQ hbQ
        go_upto_region 14 with fail
        go_region_held3 (fun x => x.cell? ⟨P, 0, none⟩ = some (.string D.name) ∧ x.cell? ⟨P, 1, none⟩ = some (.string D.help) ∧ x.cell? ⟨P, 2, none⟩ = some (.string D.unit) ∧ x.cell? ⟨P, 3, none⟩ = some (.slice a2 (fit D.cons).length cap2) ∧ x.cell? ⟨P, 4, none⟩ = some (.pointer (some ⟨Q, 0, none⟩)) ∧ x.cell? ⟨P, 7, none⟩ = some .nilIface)
          (exact KS.out _ (HTW.out _ (by repeat (first | assumption | apply TB.drew | apply TB.alloc | refine TB.stp (by assumption) ?_))))
          (first
            | (go_at_call 55
               refine (withUnit _ _).mono ?_
               rintro e w2 ⟨rfl, rfl⟩)
            | (go_at_call 54
               refine (HND.out _ _ w4.heap.size (by repeat (first | assumption | apply TB.drew | apply TB.alloc | refine TB.stp (by assumption) ?_)) (by simp) (by simp)).mono ?_
               rintro e w7 ⟨P', rfl, hP', hb7, hg7, hbad7⟩
               have ht7 : TB w4 w7 := TB.stp hb7 (by repeat (first | assumption | apply TB.drew | apply TB.alloc | refine TB.stp (by assumption) ?_))
               have HG7 := Lib.hid hg7
               have HBAD7 := Lib.hid hbad7
               clear hb7 hg7 hbad7 hP'))
        all_goals
          obtain ⟨_, _, _, _, _, m7⟩ := KS.out _ (HTW.out _ ht7)
          have HT7 := Lib.hid (HTW.out _ ht7)
          go_wp2_with fail
          go_ret
          exact ⟨P', rfl, HT7.out, fun hf => good_congr HFITE.out (HG7.out (by rw [descOk_congr HFITE.out]; exact wrap_ok HSY.out HNM.out HPL.out hf)), fun hf => HBAD7.out (by rw [descOk_congr HFITE.out]; exact wrap_bad HDN.out.1 hf)⟩
end Go.Proofs.YtojlpfakdodnfaaGreatDoor
