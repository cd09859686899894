/- What BuildFQName, FQName, DescName and FnName come to, for every three strings. -/
import Derived.Test.YtojlpfakdodnfaaGreatDoorBldZ
import Derived.WalkSpells
import Derived.WalkLawsBesides
set_option linter.unusedVariables false
set_option linter.unusedSimpArgs false
namespace Go.Proofs.YtojlpfakdodnfaaGreatDoor
open Go.RowKit

theorem ret_str {l l' : List UInt8} (h : l = l') : Ending.returned (.string ⟨l.toArray⟩) = .returned (.string ⟨l'.toArray⟩) := by rw [h]
theorem dlen (s : ByteArray) : s.data.toList.length = s.size := by rw [Array.length_toList]; rfl
theorem size_us : (⟨#[95]⟩ : ByteArray).size = 1 := rfl
theorem data_nil {a : ByteArray} (h : a.toList.isEmpty = true) : a.data.toList = [] := by rw [Lib.toList_data] at h; simpa using h
theorem data_cons {a : ByteArray} (h : a.toList.isEmpty = false) : a.data.toList ≠ [] := by rw [Lib.toList_data] at h; simpa using h

def fqL (a b c : List UInt8) : List UInt8 :=
  if c = [] then [] else (if a = [] then [] else a ++ [95]) ++ ((if b = [] then [] else b ++ [95]) ++ c)

set_option maxHeartbeats 2000000 in
set_option maxRecDepth 100000 in
theorem build_empty (a b : ByteArray) (w : World) :
    Calls Tryz.prog 48 #[.string a, .string b, .string ⟨#[]⟩] w fun e w' => e = .returned (.string ⟨#[]⟩) ∧ Below w.heap.size w w' := by
  go_enter Tryz.func48, Tryz.ntmps48
  go_wp2_with fail
  go_ret
  exact ⟨rfl, Below.refl _ _⟩

set_option maxHeartbeats 2000000 in
set_option maxRecDepth 100000 in
theorem build_ee (a b c : ByteArray) (w : World) (ha : a.size ≤ 2147483647) (hb : b.size ≤ 2147483647) (hc : c.size ≤ 2147483647) (h : c.toList.isEmpty = false) (ea : a.toList.isEmpty = true) (eb : b.toList.isEmpty = true) :
    Calls Tryz.prog 48 #[.string a, .string b, .string c] w fun e w' => e = .returned (.string ⟨(fqL a.data.toList b.data.toList c.data.toList).toArray⟩) ∧ Below w.heap.size w w' := by
  go_enter Tryz.func48, Tryz.ntmps48
  go_wp2_with fail
  refine (Grow_c w _ _ rfl (by omega) (by omega)).mono ?_
  rintro e w1 ⟨rfl, h1, b1⟩
  go_wp2_with fail
  refine (Write_c w _ _ _ _ _ h1 b1 (Nat.le_refl _) (by simp only [List.length_append, List.length_nil, List.length_cons, dlen, size_us]; omega)).mono ?_
  rintro e w2 ⟨rfl, h2, b2⟩
  go_wp2_with fail
  refine (String_c w _ _ _ _ h2 b2 (Nat.le_refl _)).mono ?_
  rintro e w3 ⟨rfl, b3⟩
  go_wp2_with fail
  go_ret
  exact ⟨ret_str (by simp [fqL, data_nil ea, data_nil eb, data_cons h]), b3⟩

set_option maxHeartbeats 2000000 in
set_option maxRecDepth 100000 in
theorem build_es (a b c : ByteArray) (w : World) (ha : a.size ≤ 2147483647) (hb : b.size ≤ 2147483647) (hc : c.size ≤ 2147483647) (h : c.toList.isEmpty = false) (ea : a.toList.isEmpty = true) (eb : b.toList.isEmpty = false) :
    Calls Tryz.prog 48 #[.string a, .string b, .string c] w fun e w' => e = .returned (.string ⟨(fqL a.data.toList b.data.toList c.data.toList).toArray⟩) ∧ Below w.heap.size w w' := by
  go_enter Tryz.func48, Tryz.ntmps48
  go_wp2_with fail
  refine (Grow_c w _ _ rfl (by omega) (by omega)).mono ?_
  rintro e w1 ⟨rfl, h1, b1⟩
  go_wp2_with fail
  refine (Write_c w _ _ _ _ _ h1 b1 (Nat.le_refl _) (by simp only [List.length_append, List.length_nil, List.length_cons, dlen, size_us]; omega)).mono ?_
  rintro e w2 ⟨rfl, h2, b2⟩
  go_wp2_with fail
  refine (Write_c w _ _ _ _ _ h2 b2 (Nat.le_refl _) (by simp only [List.length_append, List.length_nil, List.length_cons, dlen, size_us]; omega)).mono ?_
  rintro e w3 ⟨rfl, h3, b3⟩
  go_wp2_with fail
  refine (Write_c w _ _ _ _ _ h3 b3 (Nat.le_refl _) (by simp only [List.length_append, List.length_nil, List.length_cons, dlen, size_us]; omega)).mono ?_
  rintro e w4 ⟨rfl, h4, b4⟩
  go_wp2_with fail
  refine (String_c w _ _ _ _ h4 b4 (Nat.le_refl _)).mono ?_
  rintro e w5 ⟨rfl, b5⟩
  go_wp2_with fail
  go_ret
  exact ⟨ret_str (by simp [fqL, data_nil ea, data_cons eb, data_cons h]), b5⟩

set_option maxHeartbeats 2000000 in
set_option maxRecDepth 100000 in
theorem build_se (a b c : ByteArray) (w : World) (ha : a.size ≤ 2147483647) (hb : b.size ≤ 2147483647) (hc : c.size ≤ 2147483647) (h : c.toList.isEmpty = false) (ea : a.toList.isEmpty = false) (eb : b.toList.isEmpty = true) :
    Calls Tryz.prog 48 #[.string a, .string b, .string c] w fun e w' => e = .returned (.string ⟨(fqL a.data.toList b.data.toList c.data.toList).toArray⟩) ∧ Below w.heap.size w w' := by
  go_enter Tryz.func48, Tryz.ntmps48
  go_wp2_with fail
  refine (Grow_c w _ _ rfl (by omega) (by omega)).mono ?_
  rintro e w1 ⟨rfl, h1, b1⟩
  go_wp2_with fail
  refine (Write_c w _ _ _ _ _ h1 b1 (Nat.le_refl _) (by simp only [List.length_append, List.length_nil, List.length_cons, dlen, size_us]; omega)).mono ?_
  rintro e w2 ⟨rfl, h2, b2⟩
  go_wp2_with fail
  refine (Write_c w _ _ _ _ _ h2 b2 (Nat.le_refl _) (by simp only [List.length_append, List.length_nil, List.length_cons, dlen, size_us]; omega)).mono ?_
  rintro e w3 ⟨rfl, h3, b3⟩
  go_wp2_with fail
  refine (Write_c w _ _ _ _ _ h3 b3 (Nat.le_refl _) (by simp only [List.length_append, List.length_nil, List.length_cons, dlen, size_us]; omega)).mono ?_
  rintro e w4 ⟨rfl, h4, b4⟩
  go_wp2_with fail
  refine (String_c w _ _ _ _ h4 b4 (Nat.le_refl _)).mono ?_
  rintro e w5 ⟨rfl, b5⟩
  go_wp2_with fail
  go_ret
  exact ⟨ret_str (by simp [fqL, data_cons ea, data_nil eb, data_cons h]), b5⟩

set_option maxHeartbeats 2000000 in
set_option maxRecDepth 100000 in
theorem build_ss (a b c : ByteArray) (w : World) (ha : a.size ≤ 2147483647) (hb : b.size ≤ 2147483647) (hc : c.size ≤ 2147483647) (h : c.toList.isEmpty = false) (ea : a.toList.isEmpty = false) (eb : b.toList.isEmpty = false) :
    Calls Tryz.prog 48 #[.string a, .string b, .string c] w fun e w' => e = .returned (.string ⟨(fqL a.data.toList b.data.toList c.data.toList).toArray⟩) ∧ Below w.heap.size w w' := by
  go_enter Tryz.func48, Tryz.ntmps48
  go_wp2_with fail
  refine (Grow_c w _ _ rfl (by omega) (by omega)).mono ?_
  rintro e w1 ⟨rfl, h1, b1⟩
  go_wp2_with fail
  refine (Write_c w _ _ _ _ _ h1 b1 (Nat.le_refl _) (by simp only [List.length_append, List.length_nil, List.length_cons, dlen, size_us]; omega)).mono ?_
  rintro e w2 ⟨rfl, h2, b2⟩
  go_wp2_with fail
  refine (Write_c w _ _ _ _ _ h2 b2 (Nat.le_refl _) (by simp only [List.length_append, List.length_nil, List.length_cons, dlen, size_us]; omega)).mono ?_
  rintro e w3 ⟨rfl, h3, b3⟩
  go_wp2_with fail
  refine (Write_c w _ _ _ _ _ h3 b3 (Nat.le_refl _) (by simp only [List.length_append, List.length_nil, List.length_cons, dlen, size_us]; omega)).mono ?_
  rintro e w4 ⟨rfl, h4, b4⟩
  go_wp2_with fail
  refine (Write_c w _ _ _ _ _ h4 b4 (Nat.le_refl _) (by simp only [List.length_append, List.length_nil, List.length_cons, dlen, size_us]; omega)).mono ?_
  rintro e w5 ⟨rfl, h5, b5⟩
  go_wp2_with fail
  refine (Write_c w _ _ _ _ _ h5 b5 (Nat.le_refl _) (by simp only [List.length_append, List.length_nil, List.length_cons, dlen, size_us]; omega)).mono ?_
  rintro e w6 ⟨rfl, h6, b6⟩
  go_wp2_with fail
  refine (String_c w _ _ _ _ h6 b6 (Nat.le_refl _)).mono ?_
  rintro e w7 ⟨rfl, b7⟩
  go_wp2_with fail
  go_ret
  exact ⟨ret_str (by simp [fqL, data_cons ea, data_cons eb, data_cons h]), b7⟩

theorem build_any (a b c : ByteArray) (w : World) (ha : a.size ≤ 2147483647) (hb : b.size ≤ 2147483647) (hc : c.size ≤ 2147483647) :
    Calls Tryz.prog 48 #[.string a, .string b, .string c] w fun e w' => e = .returned (.string ⟨(fqL a.data.toList b.data.toList c.data.toList).toArray⟩) ∧ Below w.heap.size w w' := by
  cases h : c.toList.isEmpty with
  | true =>
    have h0 := data_nil h
    obtain rfl : c = ⟨#[]⟩ := by cases c; simp at h0; simp [h0]
    exact build_empty a b w
  | false =>
    cases ea : a.toList.isEmpty <;> cases eb : b.toList.isEmpty
    · exact build_ss a b c w ha hb hc h ea eb
    · exact build_se a b c w ha hb hc h ea eb
    · exact build_es a b c w ha hb hc h ea eb
    · exact build_ee a b c w ha hb hc h ea eb

end Go.Proofs.YtojlpfakdodnfaaGreatDoor
