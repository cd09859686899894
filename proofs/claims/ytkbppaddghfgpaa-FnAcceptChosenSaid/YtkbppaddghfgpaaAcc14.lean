/- The reference's Negotiate. -/
import Derived.Test.YtkbppaddghfgpaaAcc13
set_option linter.unusedVariables false
set_option linter.unusedSimpArgs false
namespace Go.Proofs.Ytkbppaddghfgpaa
open Go.RowKit

def Drn (w w' : World) : Prop := ∃ n, w' = w.drewN n
theorem Drn.below {w w' : World} (h : Drn w w') : Below w.heap.size w w' := by obtain ⟨n, rfl⟩ := h; exact below_drewN (Below.refl _ w) n
theorem Drn.more {w w' : World} (h : Drn w w') (m : Nat) : Drn w (w'.drewN m) := by obtain ⟨n, rfl⟩ := h; exact ⟨_, World.drewN_drewN _ _ _⟩
theorem Drn.cell {w w' : World} (h : Drn w w') (a : Addr) : w'.cell? a = w.cell? a := by obtain ⟨n, rfl⟩ := h; rfl

set_option maxHeartbeats 3200000 in
set_option maxRecDepth 100000 in
theorem negSpec (v ov : Value) (L : List Ent) (os : List ByteArray) (w : World) (hv : RdP fV fQ w v L) (hov : RdC Value.string w ov os) :
    Calls Try.prog 14 #[v, ov] w fun e w' => e = .returned (.string (negR L os)) ∧ Below w.heap.size w w' := by
  obtain ⟨a, cap, b, off, rfl, hcap, hmx, ha, hc⟩ := hv
  obtain ⟨oa, oc, ob, oo, rfl, hocap, homx, hoa, hoc⟩ := hov
  unfold maxLen at hmx homx
  have HC := Lib.hid hc
  have HOC := Lib.hid hoc
  clear hc hoc
  go_enter Try.func14, Try.ntmps14
  go_wp2_with fail
  go_loopw [5, 6, 7] (fun bv qv iv wr => ∃ (k : Nat) (st : NSt), k ≤ os.length ∧ iv = .int .i64 k ∧ bv = .string st.1 ∧ qv = .float .f64 st.2 ∧ Hid (st = negO L (os.take k)) ∧ Drn w wr) (fun _ _ iv _ => os.length - (intOf iv).toNat)
  case atStart => exact ⟨0, _, Nat.zero_le _, rfl, rfl, rfl, Lib.hid rfl, ⟨0, rfl⟩⟩
  case round =>
    obtain ⟨k, st, hk, rfl, rfl, rfl, HSO, hd⟩ := hrel
    by_cases hlt : k < os.length
    · obtain rfl : oa = some ⟨ob, oo, none⟩ := by
        rcases hoa with h | h
        · rw [h] at hlt; exact absurd hlt (Nat.not_lt_zero _)
        · exact h
      have c0 := HOC.out k os[k] (List.getElem?_eq_getElem hlt)
      have HON : Hid (negO L (os.take (k + 1)) = L.foldl (negStep os[k]) (negO L (os.take k))) := Lib.hid (by rw [List.take_succ_eq_append_getElem hlt, negO_snoc])
      generalize os[k] = o at *
      rw [← HSO.out] at HON
      clear HSO
      go_wp2_with fail
      go_loopw [5, 6, 8] (fun bv qv jv wx => ∃ (j : Nat) (st2 : NSt), j ≤ L.length ∧ jv = .int .i64 j ∧ bv = .string st2.1 ∧ qv = .float .f64 st2.2 ∧ Hid (st2 = (L.take j).foldl (negStep o) st) ∧ Drn w wx) (fun _ _ jv _ => L.length - (intOf jv).toNat)
      case atStart => exact ⟨0, st, Nat.zero_le _, rfl, rfl, rfl, Lib.hid rfl, hd⟩
      case round =>
        obtain ⟨j, st2, hj, rfl, rfl, rfl, HST, hdx⟩ := hrel
        by_cases hlj : j < L.length
        · obtain rfl : a = some ⟨b, off, none⟩ := by
            rcases ha with h | h
            · rw [h] at hlj; exact absurd hlj (Nat.not_lt_zero _)
            · exact h
          obtain ⟨c1, c2⟩ := HC.out j L[j] (List.getElem?_eq_getElem hlj)
          have c0' : wr.cell? ⟨ob, oo + k, none⟩ = some (.string o) := (hdx.cell _).trans c0
          have c1' : wr.cell? ⟨b, off + j * 2, none⟩ = some (.string L[j].1) := (hdx.cell _).trans c1
          have c2' : wr.cell? ⟨b, off + j * 2 + 1, none⟩ = some (.float .f64 (qE L[j].2)) := (hdx.cell _).trans c2
          have HN : Hid ((L.take (j + 1)).foldl (negStep o) st = negStep o ((L.take j).foldl (negStep o) st) L[j]) := Lib.hid (by rw [List.take_succ_eq_append_getElem hlj, step_snoc])
          clear c0 c1 c2
          generalize L[j] = y at *
          obtain ⟨va, d⟩ := y
          simp only at c1' c2'
          have i1 : (0 : Int) ≤ (j : Int) := by omega
          have i2 : (j : Int) < (L.length : Int) := by omega
          have i3 : (0 : Int) ≤ (k : Int) := by omega
          have i4 : (k : Int) < (os.length : Int) := by omega
          cases h1 : (FloatKind.f64.format.order (qE d) st2.2 == some .gt) with
          | false =>
            have H1 := Lib.hid h1
            go_wp2_with fail
            go_quiet (fail)
            go_wp2_with fail
            go_roundw
            case rel => exact ⟨j + 1, st2, by omega, by go_num, rfl, rfl, Lib.hid (by rw [HN.out, ← HST.out, step_no1 H1.out]), hdx.more _⟩
            case measure => simp [intOf]; omega
          | true =>
            have H1 := Lib.hid h1
            cases h2 : (va.toList == [42]) with
            | true =>
              have H2 : Hid ((va.toList == [42] || va.toList == o.toList) = true) := Lib.hid (by rw [h2]; rfl)
              go_wp2_with fail
              go_quiet (fail)
              go_wp2_with fail
              go_quiet (fail)
              go_wp2_with fail
              go_roundw
              case rel => exact ⟨j + 1, _, by omega, by go_num, rfl, rfl, Lib.hid (by rw [HN.out, ← HST.out, step_yes H1.out H2.out]), hdx.more _⟩
              case measure => simp [intOf]; omega
            | false =>
              cases h3 : (va.toList == o.toList) with
              | true =>
                have H2 : Hid ((va.toList == [42] || va.toList == o.toList) = true) := Lib.hid (by rw [h2, h3]; rfl)
                go_wp2_with fail
                go_quiet (fail)
                go_wp2_with fail
                go_quiet (fail)
                go_wp2_with fail
                go_roundw
                case rel => exact ⟨j + 1, _, by omega, by go_num, rfl, rfl, Lib.hid (by rw [HN.out, ← HST.out, step_yes H1.out H2.out]), hdx.more _⟩
                case measure => simp [intOf]; omega
              | false =>
                have H2 : Hid ((va.toList == [42] || va.toList == o.toList) = false) := Lib.hid (by rw [h2, h3]; rfl)
                go_wp2_with fail
                go_quiet (fail)
                go_wp2_with fail
                go_roundw
                case rel => exact ⟨j + 1, st2, by omega, by go_num, rfl, rfl, Lib.hid (by rw [HN.out, ← HST.out, step_no2 H2.out]), hdx.more _⟩
                case measure => simp [intOf]; omega
        · have hj2 : j = L.length := by omega
          subst hj2
          rw [List.take_length] at HST
          go_wp2_with fail
          go_roundw
          case rel => exact ⟨k + 1, st2, by omega, by go_num, rfl, rfl, Lib.hid (by rw [HON.out, HST.out]), hdx⟩
          case measure => simp [intOf]; omega
    · have hk2 : k = os.length := by omega
      subst hk2
      rw [List.take_length] at HSO
      cases h0 : (FloatKind.f64.format.order st.2 0 == some .eq) with
      | true =>
        have H0 := Lib.hid h0
        go_wp2_with fail
        go_ret
        refine ⟨ret_string ?_, hd.below⟩
        unfold negR
        rw [← HSO.out, H0.out]; rfl
      | false =>
        have H0 := Lib.hid h0
        go_wp2_with fail
        go_ret
        refine ⟨ret_string ?_, hd.below⟩
        unfold negR
        rw [← HSO.out, H0.out]; rfl
end Go.Proofs.Ytkbppaddghfgpaa
