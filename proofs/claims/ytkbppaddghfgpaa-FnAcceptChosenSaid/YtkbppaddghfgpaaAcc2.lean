/- skipSpace and expectTokenSlash: the bytes behind, and the bytes ahead and behind. -/
import Derived.Test.YtkbppaddghfgpaaAcc
import Derived.Deep.QuietTactic
import Derived.BigQuiet
import Derived.Lib.Strings
set_option linter.unusedVariables false
set_option linter.unusedSimpArgs false
namespace Go.Proofs.Ytkbppaddghfgpaa
open Go.RowKit

def spcU (c : UInt8) : Bool := hasB spcS.data.toList c.toNat
def tokU (c : UInt8) : Bool := tokB c.toNat || c == 47
theorem while_at {α : Type} (p : α → Bool) (l : List α) (k : Nat) (h : ∀ x ∈ l.take k, p x = true) (h2 : ∀ (hk : k < l.length), p l[k] = false) : l.takeWhile p = l.take k ∧ l.dropWhile p = l.drop k := by
  induction l generalizing k with
  | nil => simp
  | cons x r ih =>
    cases k with
    | zero =>
      have := h2 (by simp)
      simp only [List.getElem_cons_zero] at this
      simp [this]
    | succ k =>
      have hx := h x (by simp)
      have := ih k (fun y hy => h y (by simp [hy])) (fun hk => by have := h2 (by simpa using hk); simpa using this)
      simp [hx, this]
theorem all_succ {p : UInt8 → Bool} (s : ByteArray) (k : Nat) (hk : k < s.size) (h : ∀ x ∈ s.data.toList.take k, p x = true) (h2 : p s[k] = true) : ∀ x ∈ s.data.toList.take (k + 1), p x = true := by
  have e : s.data.toList.take (k + 1) = s.data.toList.take k ++ [s[k]] := by rw [List.take_succ_eq_append_getElem (by simpa using hk)]; rfl
  rw [e]
  intro x hx
  rcases List.mem_append.1 hx with hx | hx
  · exact h x hx
  · simp only [List.mem_singleton] at hx; rw [hx]; exact h2
theorem oct_vals (c : Int) : (hasB spcS.data.toList c = true ∧ bits .and .u8 (octB c) 2 = 2) ∨ (hasB spcS.data.toList c = false ∧ bits .and .u8 (octB c) 2 = 0) := by
  unfold octB
  cases hasB spcS.data.toList c <;> cases tokB c
  · exact .inr ⟨rfl, by decide⟩
  · exact .inr ⟨rfl, by decide⟩
  · exact .inl ⟨rfl, by decide⟩
  · exact .inl ⟨rfl, by decide⟩
theorem oct_vals1 (c : Int) : (tokB c = true ∧ bits .and .u8 (octB c) 1 = 1) ∨ (tokB c = false ∧ bits .and .u8 (octB c) 1 = 0) := by
  unfold octB
  cases hasB spcS.data.toList c <;> cases tokB c
  · exact .inr ⟨rfl, by decide⟩
  · exact .inl ⟨rfl, by decide⟩
  · exact .inr ⟨rfl, by decide⟩
  · exact .inl ⟨rfl, by decide⟩

set_option maxHeartbeats 800000 in
set_option maxRecDepth 100000 in
theorem skipSp (s : ByteArray) (w : World) (hm : s.size ≤ 9223372036854775806) :
    Calls Try.prog 58 #[.string s] w fun e w' => (∃ t : ByteArray, e = .returned (.string t) ∧ t.data.toList = s.data.toList.dropWhile spcU) ∧ Below w.heap.size w w' := by
  go_enter Try.func58, Try.ntmps58
  go_wp2
  go_loopw [3] (fun i wr => ∃ k : Nat, k ≤ s.size ∧ i = .int .i64 k ∧ (∀ x ∈ s.data.toList.take k, spcU x = true) ∧ Below w.heap.size w wr) (fun i _ => s.size - (intOf i).toNat)
  case atStart => exact ⟨0, Nat.zero_le _, rfl, by simp, Below.refl _ _⟩
  case round =>
    obtain ⟨k, hk, rfl, hall, hb⟩ := hrel
    have HALL := Lib.hid hall
    clear hall
    by_cases hlt : k < s.size
    · have hc8 : (s[k].toNat : Int) ≤ 255 := by have := s[k].toNat_lt; omega
      rcases oct_vals (s[k].toNat : Int) with ⟨h1, h2⟩ | ⟨h1, h2⟩
      · have H1 := Lib.hid h1
        clear h1
        go_wp2_with (go_at_call 68; go_must (refine (octet _ _ (by omega) hc8).mono ?_))
        rintro e w1 ⟨rfl, hb1⟩
        go_wp2_with fail
        go_roundw
        case rel => exact ⟨k + 1, by omega, by go_num, all_succ s k hlt HALL.out H1.out, hb.trans (hb1.mono hb.size)⟩
        case measure => simp [intOf]; omega
      · have H1 := Lib.hid h1
        clear h1
        go_wp2_with (go_at_call 68; go_must (refine (octet _ _ (by omega) hc8).mono ?_))
        rintro e w1 ⟨rfl, hb1⟩
        go_wp2_with fail
        go_ret
        refine ⟨⟨_, rfl, ?_⟩, hb.trans (hb1.mono hb.size)⟩
        rw [Lib.extract_data, (while_at spcU _ k HALL.out (fun _ => H1.out)).2, List.take_of_length_le (by simp)]
    · go_wp2_with fail
      go_ret
      refine ⟨⟨_, rfl, ?_⟩, hb⟩
      rw [Lib.extract_data, (while_at spcU _ k HALL.out (fun h => absurd h (by simpa using hlt))).2, List.take_of_length_le (by simp)]

/-- The token ahead and what is behind it. -/
def TokSaid (s : ByteArray) (e : Ending) : Prop := ∃ t r : ByteArray, e = .returned (.tuple #[.string t, .string r]) ∧ t.data.toList = s.data.toList.takeWhile tokU ∧ r.data.toList = s.data.toList.dropWhile tokU
theorem tok_end {s : ByteArray} {k : Nat} (hk : k ≤ s.size) (h : ∀ x ∈ s.data.toList.take k, tokU x = true) (h2 : ∀ hk : k < s.data.toList.length, tokU s.data.toList[k] = false) :
    (s.extract 0 k).data.toList = s.data.toList.takeWhile tokU ∧ (s.extract k s.size).data.toList = s.data.toList.dropWhile tokU := by
  obtain ⟨e1, e2⟩ := while_at tokU _ k h h2
  rw [Lib.extract_data, Lib.extract_data, e1, e2, List.drop_zero, Nat.sub_zero]
  exact ⟨rfl, List.take_of_length_le (by simp)⟩

set_option maxHeartbeats 800000 in
set_option maxRecDepth 100000 in
theorem expTok (s : ByteArray) (w : World) (hm : s.size ≤ 9223372036854775806) :
    Calls Try.prog 57 #[.string s] w fun e w' => TokSaid s e ∧ Below w.heap.size w w' := by
  go_enter Try.func57, Try.ntmps57
  go_wp2
  go_loopw [4] (fun i wr => ∃ k : Nat, k ≤ s.size ∧ i = .int .i64 k ∧ (∀ x ∈ s.data.toList.take k, tokU x = true) ∧ Below w.heap.size w wr) (fun i _ => s.size - (intOf i).toNat)
  case atStart => exact ⟨0, Nat.zero_le _, rfl, by simp, Below.refl _ _⟩
  case round =>
    obtain ⟨k, hk, rfl, hall, hb⟩ := hrel
    have HALL := Lib.hid hall
    clear hall
    by_cases hlt : k < s.size
    · have hc8 : (s[k].toNat : Int) ≤ 255 := by have := s[k].toNat_lt; omega
      rcases oct_vals1 (s[k].toNat : Int) with ⟨h1, h2⟩ | ⟨h1, h2⟩
      · have H1 := Lib.hid h1
        clear h1
        go_wp2_with (go_at_call 68; go_must (refine (octet _ _ (by omega) hc8).mono ?_))
        rintro e w1 ⟨rfl, hb1⟩
        go_wp2_with fail
        go_roundw
        case rel => exact ⟨k + 1, by omega, by go_num, all_succ s k hlt HALL.out (by unfold tokU; rw [H1.out]; rfl), hb.trans (hb1.mono hb.size)⟩
        case measure => simp [intOf]; omega
      · have H1 := Lib.hid h1
        clear h1
        by_cases h47 : s[k] = 47
        · have hq : ((s[k].toNat : Int) != 47) = false := by rw [h47]; rfl
          have H4 := Lib.hid h47
          clear h47
          go_wp2_with (go_at_call 68; go_must (refine (octet _ _ (by omega) hc8).mono ?_))
          rintro e w1 ⟨rfl, hb1⟩
          go_wp2_with fail
          go_roundw
          case rel => exact ⟨k + 1, by omega, by go_num, all_succ s k hlt HALL.out (by unfold tokU; rw [H4.out]; exact Bool.or_true _), hb.trans (hb1.mono hb.size)⟩
          case measure => simp [intOf]; omega
        · have hq : ((s[k].toNat : Int) != 47) = true := by rw [bne_iff_ne]; intro e; exact h47 (UInt8.toNat_inj.1 (by show s[k].toNat = 47; omega))
          have H4 := Lib.hid h47
          clear h47
          go_wp2_with (go_at_call 68; go_must (refine (octet _ _ (by omega) hc8).mono ?_))
          rintro e w1 ⟨rfl, hb1⟩
          go_wp2_with fail
          go_quiet (fail)
          go_wp2_with fail
          go_ret2
          have he := tok_end (by omega) HALL.out (fun _ => by
            show tokU s[k] = false
            unfold tokU; rw [H1.out, beq_eq_false_iff_ne.2 H4.out]; rfl)
          exact ⟨⟨_, _, rfl, he.1, he.2⟩, below_drewN (hb.trans (hb1.mono hb.size)) _⟩
    · go_wp2_with fail
      go_quiet (fail)
      go_wp2_with fail
      go_ret2
      have he := tok_end (by omega) HALL.out (fun h => absurd h (by simpa using hlt))
      exact ⟨⟨_, _, rfl, he.1, he.2⟩, below_drewN hb _⟩
end Go.Proofs.Ytkbppaddghfgpaa
