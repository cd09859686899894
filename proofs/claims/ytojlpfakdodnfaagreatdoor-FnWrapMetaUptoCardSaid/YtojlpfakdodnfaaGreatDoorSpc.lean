/- The reference's small functions on texts: In, descReserved, Plain. -/
import Derived.Test.YtojlpfakdodnfaaGreatDoorChg
import Derived.Test.YtojlpfakdodnfaaGreatDoorSl
import Derived.Test.YtojlpfakdodnfaaGreatDoorAsc
import Derived.Test.YtojlpfakdodnfaaGreatDoorVal
import Derived.BigQuiet
set_option linter.unusedVariables false
set_option linter.unusedSimpArgs false
namespace Go.Proofs.YtojlpfakdodnfaaGreatDoor
open Go.RowKit

theorem eqB (a b : ByteArray) : (a.toList == b.toList) = decide (a = b) := by
  rw [Lib.toList_data, Lib.toList_data]
  by_cases h : a = b
  · subst h; simp
  · rw [decide_eq_false h]
    exact beq_eq_false_iff_ne.2 fun e => h (bs_inj e)
def inB (s : ByteArray) (xs : List ByteArray) : Bool := xs.any fun y => decide (y = s)
theorem inB_true {s : ByteArray} {xs : List ByteArray} (h : s ∈ xs) : inB s xs = true := by unfold inB; rw [List.any_eq_true]; exact ⟨s, h, decide_eq_true rfl⟩
theorem inB_false {s : ByteArray} {xs : List ByteArray} (h : s ∉ xs) : inB s xs = false := by
  unfold inB
  rw [List.any_eq_false]
  intro y hy
  have : y ≠ s := fun e => h (e ▸ hy)
  simp [this]
theorem inB_iff {s : ByteArray} {xs : List ByteArray} : inB s xs = true ↔ s ∈ xs := by
  refine ⟨fun h => ?_, inB_true⟩
  by_cases hm : s ∈ xs
  · exact hm
  · rw [inB_false hm] at h; cases h
set_option maxHeartbeats 800000 in
set_option maxRecDepth 100000 in
theorem inK (s : ByteArray) (v : Value) (xs : List ByteArray) (w : World) (hv : RdC Value.string w v xs) :
    Calls Tryz.prog 36 #[.string s, v] w fun e w' => e = .returned (.bool (inB s xs)) ∧ w = w' := by
  obtain ⟨a, cap, b, off, rfl, hcap, hmx, ha, hc⟩ := hv
  unfold maxLen at hmx
  have HC := Lib.hid hc
  clear hc
  go_enter Tryz.func36, Tryz.ntmps36
  go_wp2_with fail
  go_loop [5] (fun i => ∃ k : Nat, k ≤ xs.length ∧ i = .int .i64 k ∧ Hid (s ∉ xs.take k)) (fun i => xs.length - (intOf i).toNat)
  case atStart => exact ⟨0, Nat.zero_le _, rfl, Lib.hid (by simp)⟩
  case round =>
    obtain ⟨k, hk, rfl, HNO⟩ := hrel
    by_cases hlt : k < xs.length
    · obtain rfl : a = some ⟨b, off, none⟩ := by
        rcases ha with h | h
        · rw [h] at hlt; exact absurd hlt (Nat.not_lt_zero _)
        · exact h
      have c1 := HC.out k xs[k] (List.getElem?_eq_getElem hlt)
      have HN : Hid (xs[k] ≠ s → Hid (s ∉ xs.take (k + 1))) := Lib.hid (fun q => Lib.hid (by
        rw [List.take_succ_eq_append_getElem hlt]
        intro h
        rcases List.mem_append.1 h with h | h
        · exact HNO.out h
        · exact q (List.mem_singleton.1 h).symm))
      have HY : Hid (xs[k] = s → s ∈ xs) := Lib.hid (fun q => q ▸ List.getElem_mem hlt)
      generalize xs[k] = y at *
      have e1 := eqB y s
      by_cases hy : y = s
      · rw [decide_eq_true hy] at e1
        have HY2 := Lib.hid (HY.out hy)
        clear HN hy HY
        go_wp2_with fail
        go_ret
        exact ⟨by rw [inB_true HY2.out]; rfl, rfl⟩
      · rw [decide_eq_false hy] at e1
        have HN2 := HN.out hy
        clear HN hy HY
        go_wp2_with fail
        go_round
        case rel => exact ⟨k + 1, by omega, by go_num, HN2⟩
        case measure => simp [intOf]; omega
    · have HE : Hid (s ∉ xs) := Lib.hid (by have := HNO.out; rwa [List.take_of_length_le (by omega)] at this)
      go_wp2_with fail
      go_ret
      exact ⟨by rw [inB_false HE.out]; rfl, rfl⟩
/-- A label name that is reserved, or empty. -/
def resv (s : ByteArray) : Bool := decide (s.size = 0) || Lib.hasPrefix s.data.toList [95, 95]
theorem cut2 (s : ByteArray) (h : 1 < s.size) : ((s.extract 0 2).toList == [95, 95]) = Lib.hasPrefix s.data.toList [95, 95] := by
  rw [Lib.toList_data, Lib.extract_data]
  obtain ⟨⟨l⟩⟩ := s
  match l, h with
  | a :: b :: r, _ =>
    show ([a, b] == [95, 95]) = List.isPrefixOf [95, 95] (a :: b :: r)
    simp only [List.isPrefixOf, Bool.and_true]
    show (a == 95 && (b == 95 && true)) = _
    rw [Bool.and_true, Bool.beq_comm (a := a), Bool.beq_comm (a := b)]
theorem cut2' (s : ByteArray) (h : ¬ 1 < s.size) (h0 : ¬ s.size = 0) : Lib.hasPrefix s.data.toList [95, 95] = false := by
  obtain ⟨⟨l⟩⟩ := s
  match l, h, h0 with
  | [], _, h0 => exact absurd rfl h0
  | [a], _, _ => show List.isPrefixOf [95, 95] [a] = false; simp [List.isPrefixOf]
  | a :: b :: r, h, _ => exact absurd (by show 1 < (a :: b :: r).length; simp) h
set_option maxHeartbeats 800000 in
set_option maxRecDepth 100000 in
theorem resvK (s : ByteArray) (hm : s.size ≤ maxLen) (w : World) : Calls Tryz.prog 29 #[.string s] w fun e w' => e = .returned (.bool (resv s)) ∧ w = w' := by
  unfold maxLen at hm
  by_cases h0 : s.size = 0
  · have e0 : s.toList.isEmpty = true := by
      rw [Lib.toList_data]
      obtain ⟨⟨l⟩⟩ := s
      match l, h0 with
      | [], _ => rfl
    have hr : resv s = true := by unfold resv; rw [decide_eq_true h0]; rfl
    rw [hr]
    go_enter Tryz.func29, Tryz.ntmps29
    go_wp2_with fail
    go_ret
    exact ⟨rfl, rfl⟩
  · have e0 : s.toList.isEmpty = false := by
      rw [Lib.toList_data]
      obtain ⟨⟨l⟩⟩ := s
      match l, h0 with
      | [], h0 => exact absurd rfl h0
      | a :: r, _ => rfl
    by_cases h1 : 1 < s.size
    · have h1z : (1 : Int) < (s.size : Int) := by omega
      have h1d : decide ((1 : Int) < (s.size : Int)) = true := decide_eq_true h1z
      have h2 := cut2 s h1
      have hr : resv s = Lib.hasPrefix s.data.toList [95, 95] := by unfold resv; rw [decide_eq_false h0]; rfl
      rw [hr]
      generalize Lib.hasPrefix s.data.toList [95, 95] = F at *
      cases F
      all_goals
        go_enter Tryz.func29, Tryz.ntmps29
        go_wp2_with fail
        go_ret
        exact ⟨rfl, rfl⟩
    · have h1z : ¬ (1 : Int) < (s.size : Int) := by omega
      have h1d : decide ((1 : Int) < (s.size : Int)) = false := decide_eq_false h1z
      have hr : resv s = false := by unfold resv; rw [decide_eq_false h0, cut2' s h1 h0]; rfl
      rw [hr]
      go_enter Tryz.func29, Tryz.ntmps29
      go_wp2_with fail
      go_ret
      exact ⟨rfl, rfl⟩
def letU (c : UInt8) : Bool := (decide (97 ≤ c.toNat) && decide (c.toNat ≤ 122)) || (decide (65 ≤ c.toNat) && decide (c.toNat ≤ 90)) || decide (c.toNat = 95)
def digU (c : UInt8) : Bool := decide (48 ≤ c.toNat) && decide (c.toNat ≤ 57)
/-- A plain name. -/
def plain (s : ByteArray) : Bool :=
  (match s.data.toList with
    | [] => false
    | c :: r => letU c && r.all fun c => letU c || digU c) && !Lib.hasPrefix s.data.toList [95, 95]
/-- The first k bytes may be. -/
def okB (l : List UInt8) : Nat → Bool
  | 0 => true
  | k + 1 => okB l k && (match l[k]? with
    | some c => letU c || (decide (0 < k) && digU c)
    | none => true)
theorem okB_false {l : List UInt8} {k : Nat} (h : okB l (k + 1) = false) (hk : k < l.length) : okB l l.length = false := by
  have : ∀ n, k + 1 ≤ n → okB l n = false := by
    intro n hn
    induction n with
    | zero => omega
    | succ n ih =>
      rcases Nat.lt_or_ge k n with h1 | h1
      · unfold okB; rw [ih h1]; rfl
      · have : n = k := by omega
        subst this; exact h
  exact this _ hk
theorem okB_all (c : UInt8) (r : List UInt8) : okB (c :: r) (r.length + 1) = (letU c && r.all fun c => letU c || digU c) := by
  have key : ∀ n, n ≤ r.length → okB (c :: r) (n + 1) = (letU c && (r.take n).all fun c => letU c || digU c) := by
    intro n hn
    induction n with
    | zero => simp [okB]
    | succ n ih =>
      have hlt : n < r.length := hn
      unfold okB
      rw [ih (Nat.le_of_lt hlt), List.getElem?_cons_succ, List.getElem?_eq_getElem hlt, List.take_succ_eq_append_getElem hlt, List.all_append]
      simp [Bool.and_assoc]
  rw [key _ (Nat.le_refl _), List.take_length]
theorem plain_eq (s : ByteArray) : plain s = (okB s.data.toList s.data.toList.length && decide (0 < s.size) && !Lib.hasPrefix s.data.toList [95, 95]) := by
  unfold plain
  obtain ⟨⟨l⟩⟩ := s
  cases l with
  | nil => rfl
  | cons c r =>
    have h0 : decide (0 < (⟨⟨c :: r⟩⟩ : ByteArray).size) = true := decide_eq_true (by show 0 < (c :: r).length; simp)
    rw [h0, Bool.and_true]
    show _ = (okB (c :: r) (r.length + 1) && _)
    rw [okB_all]
set_option maxHeartbeats 3200000 in
set_option maxRecDepth 100000 in
theorem plainK (s : ByteArray) (hm : s.size ≤ maxLen) (w : World) : Calls Tryz.prog 33 #[.string s] w fun e w' => e = .returned (.bool (plain s)) ∧ w = w' := by
  unfold maxLen at hm
  have HP := Lib.hid (plain_eq s)
  have hlen : s.data.toList.length = s.size := by rw [Array.length_toList]; rfl
  have HLEN := Lib.hid hlen
  go_enter Tryz.func33, Tryz.ntmps33
  go_wp2_with fail
  go_loop [3] (fun i => ∃ k : Nat, k ≤ s.size ∧ i = .int .i64 k ∧ Hid (okB s.data.toList k = true)) (fun i => s.size - (intOf i).toNat)
  case atStart => exact ⟨0, Nat.zero_le _, rfl, Lib.hid rfl⟩
  case round =>
    obtain ⟨k, hk, rfl, HOK⟩ := hrel
    by_cases hlt : k < s.size
    · have hlt2 : k < s.data.toList.length := by rw [hlen]; exact hlt
      have hget : s.data.toList[k] = s[k] := by rw [Array.getElem_toList]; rfl
      have HST : Hid (okB s.data.toList (k + 1) = (letU s[k] || (decide (0 < k) && digU s[k]))) := Lib.hid (by
        show (okB s.data.toList k && _) = _
        rw [HOK.out, List.getElem?_eq_getElem hlt2, hget, Bool.true_and])
      have hc8 := s[k].toNat_lt
      have HF : Hid (okB s.data.toList (k + 1) = false → plain s = false) := Lib.hid (fun h => by rw [HP.out, okB_false h hlt2]; rfl)
      have HST2 : Hid (∀ b, (letU s[k] || (decide (0 < k) && digU s[k])) = b → okB s.data.toList (k + 1) = b) := Lib.hid (fun b h => by rw [HST.out]; exact h)
      clear hget HST hlen
      skip
      generalize hn : s[k].toNat = n at hc8 ⊢
      have HLD : Hid (letU s[k] = ((decide (97 ≤ n) && decide (n ≤ 122)) || (decide (65 ≤ n) && decide (n ≤ 90)) || decide (n = 95)) ∧ digU s[k] = (decide (48 ≤ n) && decide (n ≤ 57))) := Lib.hid (by unfold letU digU; rw [hn]; exact ⟨rfl, rfl⟩)
      rcases (by omega : n < 48 ∨ (48 ≤ n ∧ n ≤ 57) ∨ (58 ≤ n ∧ n ≤ 64) ∨ (65 ≤ n ∧ n ≤ 90) ∨ (91 ≤ n ∧ n ≤ 94) ∨ n = 95 ∨ n = 96 ∨ (97 ≤ n ∧ n ≤ 122) ∨ 123 ≤ n) with h | h | h | h | h | h | h | h | h
      all_goals by_cases hk0 : 0 < k
      all_goals
        (first | have d0 : decide ((97 : Int) ≤ (n : Int)) = true := decide_eq_true (by omega) | have d0 : decide ((97 : Int) ≤ (n : Int)) = false := decide_eq_false (by omega))
        (first | have d1 : decide ((n : Int) ≤ 122) = true := decide_eq_true (by omega) | have d1 : decide ((n : Int) ≤ 122) = false := decide_eq_false (by omega))
        (first | have d2 : decide ((65 : Int) ≤ (n : Int)) = true := decide_eq_true (by omega) | have d2 : decide ((65 : Int) ≤ (n : Int)) = false := decide_eq_false (by omega))
        (first | have d3 : decide ((n : Int) ≤ 90) = true := decide_eq_true (by omega) | have d3 : decide ((n : Int) ≤ 90) = false := decide_eq_false (by omega))
        (first | have d4 : decide ((48 : Int) ≤ (n : Int)) = true := decide_eq_true (by omega) | have d4 : decide ((48 : Int) ≤ (n : Int)) = false := decide_eq_false (by omega))
        (first | have d5 : decide ((n : Int) ≤ 57) = true := decide_eq_true (by omega) | have d5 : decide ((n : Int) ≤ 57) = false := decide_eq_false (by omega))
        (first | have d6 : ((n : Int) == 95) = true := by (rw [beq_iff_eq]; omega) | have d6 : ((n : Int) == 95) = false := by (rw [beq_eq_false_iff_ne]; omega))
        (first | have d7 : decide ((0 : Int) < (k : Int)) = true := decide_eq_true (by omega) | have d7 : decide ((0 : Int) < (k : Int)) = false := decide_eq_false (by omega))
        (first
          | (have HB : Hid (okB s.data.toList (k + 1) = true) := Lib.hid (HST2.out _ (by rw [HLD.out.1, HLD.out.2]; simp only [Bool.or_eq_true, Bool.and_eq_true, decide_eq_true_eq]; omega))
             clear HST2 HLD HF h
             go_wp2_with fail
             go_round
             case rel => exact ⟨k + 1, by omega, by go_num, HB⟩
             case measure => simp [intOf]; omega)
          | (have HB : Hid (plain s = false) := Lib.hid (HF.out (HST2.out _ (by rw [HLD.out.1, HLD.out.2, Bool.eq_false_iff]; simp only [ne_eq, Bool.or_eq_true, Bool.and_eq_true, decide_eq_true_eq]; omega)))
             clear HST2 HLD HF h
             go_wp2_with fail
             go_ret
             exact ⟨by rw [HB.out]; rfl, rfl⟩))
    · have hkk : k = s.size := by omega
      have HT : Hid (plain s = (decide (0 < s.size) && !Lib.hasPrefix s.data.toList [95, 95])) := Lib.hid (by rw [HP.out, HLEN.out, ← hkk, HOK.out, Bool.true_and])
      clear hkk hlen
      by_cases h0 : s.size = 0
      · have e0 : s.toList.isEmpty = true := by
          rw [Lib.toList_data]
          obtain ⟨⟨l⟩⟩ := s
          match l, h0 with
          | [], _ => rfl
        have HR : Hid (plain s = false) := Lib.hid (by rw [HT.out, decide_eq_false (by omega)]; rfl)
        go_wp2_with fail
        go_ret
        exact ⟨by rw [HR.out]; rfl, rfl⟩
      · have e0 : s.toList.isEmpty = false := by
          rw [Lib.toList_data]
          obtain ⟨⟨l⟩⟩ := s
          match l, h0 with
          | [], h0 => exact absurd rfl h0
          | a :: r, _ => rfl
        by_cases h1 : 1 < s.size
        · have h1z : ¬ (s.size : Int) < 2 := by omega
          have h1d : decide ((s.size : Int) < 2) = false := decide_eq_false h1z
          have h1e : decide (s.size < 2) = false := decide_eq_false (by omega)
          have h2 := cut2 s h1
          have HR : Hid (plain s = !Lib.hasPrefix s.data.toList [95, 95]) := Lib.hid (by rw [HT.out, decide_eq_true (by omega)]; rfl)
          have h3 : ((s.extract 0 2).toList != [95, 95]) = !Lib.hasPrefix s.data.toList [95, 95] := by rw [← h2]; rfl
          generalize Lib.hasPrefix s.data.toList [95, 95] = F at *
          cases F
          all_goals
            go_wp2_with fail
            go_ret
            exact ⟨by rw [HR.out]; rfl, rfl⟩
        · have h1z : (s.size : Int) < 2 := by omega
          have h1d : decide ((s.size : Int) < 2) = true := decide_eq_true h1z
          have h1e : decide (s.size < 2) = true := decide_eq_true (by omega)
          have HR : Hid (plain s = true) := Lib.hid (by rw [HT.out, decide_eq_true (by omega), cut2' s h1 h0]; rfl)
          go_wp2_with fail
          go_ret
          exact ⟨by rw [HR.out]; rfl, rfl⟩
end Go.Proofs.YtojlpfakdodnfaaGreatDoor
