/- The choice among offers: the program's and the reference's loops are one plain fold. -/
import Derived.Test.YtkbppaddghfgpaaAcc12
set_option linter.unusedVariables false
set_option linter.unusedSimpArgs false
namespace Go.Proofs.Ytkbppaddghfgpaa
open Go.RowKit

abbrev NSt := ByteArray × Nat
def negStep (o : ByteArray) (s : NSt) (x : Ent) : NSt :=
  if (FloatKind.f64.format.order (qE x.2) s.2 == some .gt) && (x.1.toList == [42] || x.1.toList == o.toList) then (o, qE x.2) else s
def negO (L : List Ent) (os : List ByteArray) : NSt := os.foldl (fun s o => L.foldl (negStep o) s) (⟨#[105, 100, 101, 110, 116, 105, 116, 121]⟩, 13830554455654793216)
def negR (L : List Ent) (os : List ByteArray) : ByteArray := if (FloatKind.f64.format.order (negO L os).2 0 == some .eq) then ⟨#[]⟩ else (negO L os).1
theorem negO_snoc (L : List Ent) (os : List ByteArray) (o : ByteArray) : negO L (os ++ [o]) = L.foldl (negStep o) (negO L os) := by simp [negO]
theorem step_snoc (o : ByteArray) (s : NSt) (L : List Ent) (x : Ent) : (L ++ [x]).foldl (negStep o) s = negStep o (L.foldl (negStep o) s) x := by simp
theorem step_yes {o : ByteArray} {s : NSt} {x : Ent} (h1 : (FloatKind.f64.format.order (qE x.2) s.2 == some .gt) = true) (h2 : (x.1.toList == [42] || x.1.toList == o.toList) = true) : negStep o s x = (o, qE x.2) := by
  unfold negStep; rw [h1, h2]; rfl
theorem step_no1 {o : ByteArray} {s : NSt} {x : Ent} (h1 : (FloatKind.f64.format.order (qE x.2) s.2 == some .gt) = false) : negStep o s x = s := by
  unfold negStep; rw [h1]; rfl
theorem step_no2 {o : ByteArray} {s : NSt} {x : Ent} (h2 : (x.1.toList == [42] || x.1.toList == o.toList) = false) : negStep o s x = s := by
  unfold negStep; rw [h2, Bool.and_false]; rfl
theorem RdC.shape13 {α : Type} {f : α → Value} {w : World} {v : Value} {xs : List α} (h : RdC f w v xs) : ∃ a c, v = .slice a xs.length c := by
  obtain ⟨a, c, _, _, h, _⟩ := h
  exact ⟨a, c, h⟩
theorem ret_string {a b : ByteArray} (h : a = b) : Ending.returned (.string a) = .returned (.string b) := by rw [h]

set_option maxHeartbeats 3200000 in
set_option maxRecDepth 100000 in
theorem negImpl (mv v ov : Value) (g : List UInt8) (ess : List (List Ent)) (os : List ByteArray) (w : World) (hg : g = [] ∨ g = [32])
    (hlook : ∀ w', Below w.heap.size w w' → (Instr.lookup 69 mv (.string ⟨#[65, 99, 99, 101, 112, 116, 45, 69, 110, 99, 111, 100, 105, 110, 103]⟩) false).run Try.prog w' = .ok v w')
    (hv : RdC Value.string w v (ess.map (lineB g))) (hn : ess.length ≤ 2147483647) (htot : ess.flatten.length ≤ 4294967296)
    (hok : ∀ es ∈ ess, ∀ x ∈ es, EntOk x) (hsz : ∀ es ∈ ess, (lineL g es).length ≤ 9223372036854775806) (hov : RdC Value.string w ov os) :
    Calls Try.prog 33 #[mv, ov] w fun e w' => e = .returned (.string (negR ess.flatten os)) ∧ Below w.heap.size w w' := by
  have HOK := Lib.hid hok
  have HSZ := Lib.hid hsz
  have HV := Lib.hid hv
  have HLK := Lib.hid hlook
  have HOV := Lib.hid hov
  obtain ⟨oa, oc, hove⟩ := hov.shape13
  subst hove
  clear hok hsz hv hlook hov
  go_enter Try.func33, Try.ntmps33
  go_wp2_with (go_at_call 49; go_must (refine (hdrParse _ v _ g ess _ hg HLK.out HV.out hn htot HOK.out HSZ.out).mono ?_))
  rintro e w1 ⟨⟨v1, rfl, hrd⟩, hb1⟩
  have hov1 := HOV.out.below hb1
  clear HOV HLK HV HOK HSZ
  generalize hL : ess.flatten = L at *
  have HL := Lib.hid hL
  clear hL
  obtain ⟨a, cap, b, off, rfl, hcap, hmx, ha, hc⟩ := hrd
  obtain ⟨oa', oc', ob, oo, hoe, hocap, homx, hoa, hoc⟩ := hov1
  cases hoe
  unfold maxLen at hmx homx
  have HC := Lib.hid hc
  have HOC := Lib.hid hoc
  clear hc hoc
  go_wp2_with fail
  go_loopw [5, 6, 16] (fun bv qv iv wr => ∃ (k : Nat) (st : NSt), k ≤ os.length ∧ iv = .int .i64 k ∧ bv = .string st.1 ∧ qv = .float .f64 st.2 ∧ Hid (st = negO L (os.take k)) ∧ Below w1.heap.size w1 wr) (fun _ _ iv _ => os.length - (intOf iv).toNat)
  case atStart => exact ⟨0, _, Nat.zero_le _, rfl, rfl, rfl, Lib.hid rfl, Below.refl _ _⟩
  case round =>
    obtain ⟨k, st, hk, rfl, rfl, rfl, HSO, hb⟩ := hrel
    by_cases hlt : k < os.length
    · obtain rfl : oa = some ⟨ob, oo, none⟩ := by
        rcases hoa with h | h
        · rw [h] at hlt; exact absurd hlt (Nat.not_lt_zero _)
        · exact h
      have c0 := HOC.out k os[k] (List.getElem?_eq_getElem hlt)
      have c0' : wr.cell? ⟨ob, oo + k, none⟩ = some (.string os[k]) := (hb.cell (p := ⟨ob, oo + k, none⟩) (World.block_lt_of_cell? w1 _ c0)).trans c0
      have HON : Hid (negO L (os.take (k + 1)) = L.foldl (negStep os[k]) (negO L (os.take k))) := Lib.hid (by rw [List.take_succ_eq_append_getElem hlt, negO_snoc])
      clear c0
      generalize os[k] = o at *
      rw [← HSO.out] at HON
      clear HSO
      go_wp2_with fail
      go_loopw [5, 6, 22] (fun bv qv jv wx => ∃ (j : Nat) (st2 : NSt), j ≤ L.length ∧ jv = .int .i64 j ∧ bv = .string st2.1 ∧ qv = .float .f64 st2.2 ∧ Hid (st2 = (L.take j).foldl (negStep o) st) ∧ Below w1.heap.size w1 wx) (fun _ _ jv _ => L.length - (intOf jv).toNat)
      case atStart => exact ⟨0, st, Nat.zero_le _, rfl, rfl, rfl, Lib.hid rfl, hb⟩
      case round =>
        obtain ⟨j, st2, hj, rfl, rfl, rfl, HST, hbx⟩ := hrel
        by_cases hlj : j < L.length
        · obtain rfl : a = some ⟨b, off, none⟩ := by
            rcases ha with h | h
            · rw [h] at hlj; exact absurd hlj (Nat.not_lt_zero _)
            · exact h
          obtain ⟨c1, c2⟩ := HC.out j L[j] (List.getElem?_eq_getElem hlj)
          have c1' : wr.cell? ⟨b, off + j * 2, none⟩ = some (.string L[j].1) := (hbx.cell (p := ⟨b, off + j * 2, none⟩) (World.block_lt_of_cell? w1 _ c1)).trans c1
          have c2' : wr.cell? ⟨b, off + j * 2 + 1, none⟩ = some (.float .f64 (qE L[j].2)) := (hbx.cell (p := ⟨b, off + j * 2 + 1, none⟩) (World.block_lt_of_cell? w1 _ c2)).trans c2
          have HN : Hid ((L.take (j + 1)).foldl (negStep o) st = negStep o ((L.take j).foldl (negStep o) st) L[j]) := Lib.hid (by rw [List.take_succ_eq_append_getElem hlj, step_snoc])
          clear c1 c2
          generalize L[j] = y at *
          obtain ⟨va, d⟩ := y
          simp only at c1' c2'
          cases h1 : (FloatKind.f64.format.order (qE d) st2.2 == some .gt) with
          | false =>
            have H1 := Lib.hid h1
            go_wp2_with fail
            go_roundw
            case rel => exact ⟨j + 1, st2, by omega, by go_num, rfl, rfl, Lib.hid (by rw [HN.out, ← HST.out, step_no1 H1.out]), hbx.trans (((Below.refl _ wr).alloc (Nat.le_refl _) _).mono hbx.size)⟩
            case measure => simp [intOf]; omega
          | true =>
            have H1 := Lib.hid h1
            cases h2 : (va.toList == [42]) with
            | true =>
              have H2 : Hid ((va.toList == [42] || va.toList == o.toList) = true) := Lib.hid (by rw [h2]; rfl)
              go_wp2_with fail
              go_roundw
              case rel => exact ⟨j + 1, _, by omega, by go_num, rfl, rfl, Lib.hid (by rw [HN.out, ← HST.out, step_yes H1.out H2.out]), hbx.trans (((Below.refl _ wr).alloc (Nat.le_refl _) _).mono hbx.size)⟩
              case measure => simp [intOf]; omega
            | false =>
              cases h3 : (va.toList == o.toList) with
              | true =>
                have H2 : Hid ((va.toList == [42] || va.toList == o.toList) = true) := Lib.hid (by rw [h2, h3]; rfl)
                go_wp2_with fail
                go_roundw
                case rel => exact ⟨j + 1, _, by omega, by go_num, rfl, rfl, Lib.hid (by rw [HN.out, ← HST.out, step_yes H1.out H2.out]), hbx.trans (((Below.refl _ wr).alloc (Nat.le_refl _) _).mono hbx.size)⟩
                case measure => simp [intOf]; omega
              | false =>
                have H2 : Hid ((va.toList == [42] || va.toList == o.toList) = false) := Lib.hid (by rw [h2, h3]; rfl)
                go_wp2_with fail
                go_roundw
                case rel => exact ⟨j + 1, st2, by omega, by go_num, rfl, rfl, Lib.hid (by rw [HN.out, ← HST.out, step_no2 H2.out]), hbx.trans (((Below.refl _ wr).alloc (Nat.le_refl _) _).mono hbx.size)⟩
                case measure => simp [intOf]; omega
        · have hj2 : j = L.length := by omega
          subst hj2
          rw [List.take_length] at HST
          go_wp2_with fail
          go_roundw
          case rel => exact ⟨k + 1, st2, by omega, by go_num, rfl, rfl, Lib.hid (by rw [HON.out, HST.out]), hbx⟩
          case measure => simp [intOf]; omega
    · have hk2 : k = os.length := by omega
      subst hk2
      rw [List.take_length] at HSO
      cases h0 : (FloatKind.f64.format.order st.2 0 == some .eq) with
      | true =>
        have H0 := Lib.hid h0
        go_wp2_with fail
        go_ret
        refine ⟨ret_string ?_, hb1.trans (hb.mono hb1.size)⟩
        unfold negR
        rw [HL.out, ← HSO.out, H0.out]; rfl
      | false =>
        have H0 := Lib.hid h0
        go_wp2_with fail
        go_ret
        refine ⟨ret_string ?_, hb1.trans (hb.mono hb1.size)⟩
        unfold negR
        rw [HL.out, ← HSO.out, H0.out]; rfl
end Go.Proofs.Ytkbppaddghfgpaa
