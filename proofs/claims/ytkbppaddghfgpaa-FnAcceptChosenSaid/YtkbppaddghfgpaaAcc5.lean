/- HasPrefix, and expectQuality of digits that end at a comma or at the end. -/
import Derived.Test.YtkbppaddghfgpaaAcc4
set_option linter.unusedVariables false
set_option linter.unusedSimpArgs false
namespace Go.Proofs.Ytkbppaddghfgpaa
open Go.RowKit

def preB (s p : ByteArray) : Bool := decide (p.data.toList <+: s.data.toList)
theorem pre_short {s p : ByteArray} (h : ¬ p.size ≤ s.size) : preB s p = false := by
  refine decide_eq_false fun hp => h ?_
  have := hp.length_le
  rwa [data_len, data_len] at this
theorem pre_long {s p : ByteArray} (h : p.size ≤ s.size) : ((s.extract 0 p.size).toList == p.toList) = preB s p := by
  have e : (s.extract 0 p.size).toList = s.data.toList.take p.size := by rw [Lib.extract_toList, List.drop_zero, Nat.sub_zero]
  rw [e, Lib.toList_data]
  unfold preB
  by_cases hp : p.data.toList <+: s.data.toList
  · rw [decide_eq_true hp, beq_iff_eq]
    have := List.prefix_iff_eq_take.1 hp
    rw [data_len] at this
    exact this.symm
  · rw [decide_eq_false hp, beq_eq_false_iff_ne]
    intro he
    exact hp (he ▸ List.take_prefix _ _)

set_option maxHeartbeats 800000 in
set_option maxRecDepth 100000 in
theorem hasPre0 (s p : ByteArray) (w : World) (hp : p.size ≤ 9223372036854775806) (hm : s.size ≤ 9223372036854775806) :
    Calls Try.prog 69 #[.string s, .string p] w fun e w' => e = .returned (.bool (preB s p)) ∧ w = w' := by
  by_cases h : p.size ≤ s.size
  · have HE := Lib.hid (pre_long h)
    go_enter Try.func69, Try.ntmps69
    go_wp2_with fail
    go_ret
    exact ⟨ret_bool HE.out, rfl⟩
  · have HE := Lib.hid (pre_short h)
    go_enter Try.func69, Try.ntmps69
    go_wp2_with fail
    go_ret
    exact ⟨ret_bool HE.out.symm, rfl⟩
theorem hasPre (s p : ByteArray) (w : World) (hp : p.size ≤ 9223372036854775806) (hm : s.size ≤ 9223372036854775806) :
    Calls Try.prog 59 #[.string s, .string p] w fun e w' => e = .returned (.bool (preB s p)) ∧ w = w' := by
  go_enter Try.func59, Try.ntmps59
  go_wp2_with fail
  refine (hasPre0 s p _ hp hm).mono ?_
  rintro e w1 ⟨rfl, rfl⟩
  go_wp2_with fail
  go_ret
  exact ⟨rfl, rfl⟩

/-- What is behind digits: nothing, or a comma. -/
def Ends (r : List UInt8) : Prop := r = [] ∨ r.head? = some 44
theorem pre_at (s : ByteArray) (c : UInt8) (l : List UInt8) (h : s.data.toList = l) : preB s ⟨#[c]⟩ = decide (l.head? = some c) := by
  unfold preB
  rw [h]
  cases l with
  | nil => simp
  | cons x r => simp [eq_comm]

theorem q_one {a : UInt8} {d : Nat} {l : List UInt8} (h : QIs l a d) (h1 : l.length = 1) : qOf l = floatOfInt .f64 (dg a) := by
  have hd : l.drop 2 = [] := List.drop_eq_nil_of_le (by omega)
  have hq := h.quo
  have ha := h.add
  rw [hd] at hq
  have e0 : floatBits .quo .f64 (floatOfInt .f64 (qF []).1) (floatOfInt .f64 (qF []).2) = some 0 := by decide +kernel
  rw [e0] at hq
  cases hq
  have hdg : dg a = 0 ∨ dg a = 1 := by unfold dg; rcases h.dig with h | h <;> rw [h] <;> decide
  rcases hdg with hg | hg <;> rw [hg] at ha ⊢
  · have e1 : floatBits .add .f64 (floatOfInt .f64 0) 0 = some (floatOfInt .f64 0) := by decide +kernel
    rw [e1] at ha; exact (Option.some.inj ha).symm
  · have e1 : floatBits .add .f64 (floatOfInt .f64 1) 0 = some (floatOfInt .f64 1) := by decide +kernel
    rw [e1] at ha; exact (Option.some.inj ha).symm
theorem head_of (s : ByteArray) (h : 0 < s.size) (l r : List UInt8) (a : UInt8) (hs : s.data.toList = l ++ r) (ha : l[0]? = some a) : s[0] = a := by
  have h1 := data_get s 0 h
  have hl : 0 < l.length := by
    cases l with
    | nil => cases ha
    | cons x t => exact Nat.succ_pos _
  rw [hs, List.getElem?_append_left hl, ha] at h1
  exact (Option.some.inj h1).symm

set_option maxHeartbeats 1600000 in
set_option maxRecDepth 100000 in
theorem expQ (s : ByteArray) (w : World) (l r : List UInt8) (hs : s.data.toList = l ++ r) (hm : s.size ≤ 9223372036854775806) (hd : Dig l) (hr : Ends r) :
    Calls Try.prog 60 #[.string s] w fun e w' => ∃ (t : ByteArray) (n : Nat), e = .returned (.tuple #[.float .f64 (qOf l), .string t]) ∧ t.data.toList = r ∧ w' = w.drewN n := by
  obtain ⟨a, d, hq⟩ := hd.q
  have HQ := Lib.hid hq
  have HD := Lib.hid hd
  have hl := hd.len
  have p0 : 0 < s.size := by rw [← data_len, hs, List.length_append]; omega
  have hs0 : s[0] = a := head_of s p0 l r a hs hq.head
  have hdig := hq.dig
  have e0 : ((s.size : Int) == 0) = false := beq_eq_false_iff_ne.2 (by omega)
  have hz : (s.extract 1 s.size).data.toList = l.drop 1 ++ r := by
    rw [Lib.extract_data, hs, List.drop_append_of_le_length (by omega), List.take_of_length_le]
    have : s.size = l.length + r.length := by rw [← data_len, hs, List.length_append]
    simp; omega
  have HZ := Lib.hid hz
  have hzs : (s.extract 1 s.size).size ≤ 9223372036854775806 := by rw [ByteArray.size_extract]; omega
  have HS := Lib.hid hs
  have HR := Lib.hid hr
  clear hq hd hs hz hr
  obtain ⟨v, b1, b2, hv, hb1, hb2, hb⟩ : ∃ (v : Nat) (b1 b2 : Bool), v = floatOfInt .f64 (dg a) ∧ ((s[0].toNat : Int) == 48) = b1 ∧ ((s[0].toNat : Int) == 49) = b2 ∧ (b1 = true ∧ v = 0 ∨ b1 = false ∧ b2 = true ∧ v = 4607182418800017408) := by
    refine ⟨_, _, _, rfl, rfl, rfl, ?_⟩
    rw [hs0]; unfold dg
    rcases hdig with h | h <;> rw [h]
    · exact .inl ⟨rfl, fi0⟩
    · exact .inr ⟨rfl, rfl, fi1⟩
  have HV := Lib.hid hv
  clear hv hs0 hdig
  by_cases h1 : l.length = 1
  · have HP : Hid (preB (s.extract 1 s.size) ⟨#[46]⟩ = false) := Lib.hid (by
      rw [pre_at _ _ _ HZ.out, List.drop_eq_nil_of_le (by omega), List.nil_append]
      refine decide_eq_false ?_
      rcases HR.out with h | h <;> rw [h]
      · exact fun h => nomatch h
      · exact fun h => by cases h)
    have HQ1 := Lib.hid (q_one HQ.out h1)
    have HZ1 : Hid ((s.extract 1 s.size).data.toList = r) := Lib.hid (by rw [HZ.out, List.drop_eq_nil_of_le (by omega), List.nil_append])
    rcases hb with ⟨rfl, rfl⟩ | ⟨rfl, rfl, rfl⟩
    all_goals
      go_enter Try.func60, Try.ntmps60
      go_wp2_with fail
      refine (hasPre _ _ _ (by decide) hzs).mono ?_
      rintro e w1 ⟨rfl, rfl⟩
      rw [HP.out]
      go_wp2_with fail
      go_ret2
      rw [HQ1.out, ← HV.out]
      exact ⟨_, 0, rfl, HZ1.out, rfl⟩
  · have h3 : 3 ≤ l.length ∧ l.length ≤ 5 := by omega
    have hq1 := fun t wx => run_float_arith (P := Try.prog) wx .quo t .f64 _ _ _ HQ.out.quo
    have hq2 := fun t wx => run_float_arith (P := Try.prog) wx .add t .f64 v _ _ (by rw [HV.out]; exact HQ.out.add)
    have hz1 : 1 ≤ (s.extract 1 s.size).size := by rw [← data_len, HZ.out, List.length_append, List.length_drop]; omega
    have hy : ((s.extract 1 s.size).extract 1 (s.extract 1 s.size).size).data.toList = l.drop 2 ++ r := by
      rw [Lib.extract_data, HZ.out, List.drop_append_of_le_length (by rw [List.length_drop]; omega), List.drop_drop, List.take_of_length_le]
      rw [← data_len, HZ.out]; simp; omega
    have HP : Hid (preB (s.extract 1 s.size) ⟨#[46]⟩ = true) := Lib.hid (by
      rw [pre_at _ _ _ HZ.out]
      refine decide_eq_true ?_
      rw [List.head?_append, List.head?_drop, HD.out.dot (by omega)]; rfl)
    have hys : ((s.extract 1 s.size).extract 1 (s.extract 1 s.size).size).size = l.length - 2 + r.length := by rw [← data_len, hy, List.length_append, List.length_drop]
    have hyb : ((s.extract 1 s.size).extract 1 (s.extract 1 s.size).size).size ≤ 9223372036854775806 := by rw [ByteArray.size_extract]; omega
    have HY := Lib.hid hy
    have hdl : (l.drop 2).length = l.length - 2 := List.length_drop
    have HF := Lib.hid HD.out.few
    clear hy
    obtain ⟨ds, hds⟩ : ∃ ds, ds = l.drop 2 := ⟨_, rfl⟩
    rw [← hds] at hdl hq1 HY HF
    rw [← hdl] at hys
    clear hdl
    have HG : Hid (∀ c ∈ ds, isDg c) := Lib.hid (by rw [hds]; exact HD.out.digs)
    clear hds
    rcases hb with ⟨rfl, rfl⟩ | ⟨rfl, rfl, rfl⟩
    all_goals
      go_enter Try.func60, Try.ntmps60
      go_wp2_with fail
      refine (hasPre _ _ _ (by decide) hzs).mono ?_
      rintro e w1 ⟨rfl, rfl⟩
      rw [HP.out]
      generalize s.extract 1 s.size = z at *
      clear h1 h3
      go_wp2_with fail
      generalize z.extract 1 z.size = y at *
      go_loop [4, 5, 6] (fun iv nv uv => ∃ k : Nat, k ≤ ds.length ∧ iv = .int .i64 k ∧ nv = .int .i64 (qF (ds.take k)).1 ∧ uv = .int .i64 (qF (ds.take k)).2) (fun iv _ _ => y.size + 1 - (intOf iv).toNat)
      case atStart => exact ⟨0, by omega, rfl, rfl, rfl⟩
      case round =>
        obtain ⟨k, hk, rfl, rfl, rfl⟩ := hrel
        by_cases hlt : k < ds.length
        · have hky : k < y.size := by omega
          have hyk : y[k] = ds[k] := by
            have h1 := data_get y k hky
            rw [HY.out, List.getElem?_append_left hlt, List.getElem?_eq_getElem hlt] at h1
            exact (Option.some.inj h1).symm
          have hsk : isDg y[k] := by rw [hyk]; exact HG.out _ (List.getElem_mem _)
          have hl3 : (ds.take k).length ≤ 3 := by rw [List.length_take]; have := HF.out; omega
          have hb := qF_bd _ hl3 (fun c hc => HG.out c (List.mem_of_mem_take hc))
          have HN : Hid (ds.take (k + 1) = ds.take k ++ [y[k]]) := Lib.hid (by rw [List.take_succ_eq_append_getElem hlt, hyk])
          have HE := Lib.hid (qF_snoc (ds.take k) y[k])
          unfold isDg at hsk
          clear hyk
          obtain ⟨rr, hrr⟩ : ∃ rr, rr = (qF (ds.take k)).1 := ⟨_, rfl⟩
          obtain ⟨u, hu⟩ : ∃ u, u = (qF (ds.take k)).2 := ⟨_, rfl⟩
          rw [← hrr, ← hu] at hb
          rw [← hrr, ← hu]
          have HRR := Lib.hid hrr
          have HU := Lib.hid hu
          clear hrr hu
          go_wp2_with fail
          go_round
          case rel =>
            refine ⟨k + 1, by omega, by go_num, ?_, ?_⟩
            · rw [HN.out, HE.out]; unfold qStep; rw [← HRR.out]; unfold dg; go_num
            · rw [HN.out, HE.out]; unfold qStep; rw [← HU.out]; go_num
          case measure => simp [intOf]; omega
        · have hk2 : k = ds.length := by omega
          subst hk2
          rw [List.take_length]
          have hb := qF_bd _ HF.out HG.out
          have HYE : Hid ((y.extract ds.length y.size).data.toList = r) := Lib.hid (by
            rw [Lib.extract_data, HY.out, List.drop_append_of_le_length (Nat.le_refl _), List.drop_length, List.nil_append, List.take_of_length_le]
            rw [← data_len, HY.out]; simp)
          by_cases hr0 : r.length = 0
          · go_wp2_with fail
            go_quiet (fail)
            go_wp2_with fail
            go_ret2
            exact ⟨_, _, rfl, (List.length_eq_zero_iff.1 hr0).symm, rfl⟩
          · have hky : ds.length < y.size := by omega
            have hy44 : y[ds.length].toNat = 44 := by
              have h1 := data_get y _ hky
              rw [HY.out, List.getElem?_append_right (Nat.le_refl _), Nat.sub_self] at h1
              rcases HR.out with h | h
              · rw [h] at hr0; exact absurd rfl hr0
              · rw [List.head?_eq_getElem?] at h
                rw [h] at h1
                rw [← Option.some.inj h1]; rfl
            go_wp2_with fail
            go_quiet (fail)
            go_wp2_with fail
            go_ret2
            exact ⟨_, _, rfl, (by have := HYE.out; rw [hys] at this; exact this), rfl⟩
end Go.Proofs.Ytkbppaddghfgpaa
