/- What the reference's Sanitized comes to. -/
import Derived.Test.YteibgcmpkgilfaaSan3
import Derived.Laws.BytesArg
set_option linter.unusedVariables false
set_option linter.unusedSimpArgs false
namespace Go.Proofs.Yteibgcmpkgilfaa
open Go.RowKit

/-- What the reference's Sanitized answers: false, or the sanitized bytes of an ASCII string. -/
def SanSaid (s : ByteArray) (e : Ending) : Prop :=
  ∃ (t : ByteArray) (ok : Bool), e = .returned (.tuple #[.string t, .bool ok]) ∧ (ok = true → (∀ i (hi : i < s.size), (s[i]'hi).toNat ≤ 127) ∧ t.data.toList = san s.data.toList)

theorem conv_byte (w : World) (x : Int) : (convert 43 9 (.slice (some ⟨w.heap.size, 0, none⟩) 1 1)).run Try.prog (w.alloc (.cells #[.int .u8 x] 5)) = .ok (.string (strOfNums [x])) (w.alloc (.cells #[.int .u8 x] 5)) := by
  refine run_convert_bytes_arg (w := w.alloc (.cells #[.int .u8 x] 5)) 43 5 Try.underlying43 Try.underlying5 w.heap.size 0 1 1 [x] rfl ?_ 9 Try.underlying9
  intro i hi
  obtain rfl : i = 0 := by omega
  show (match (w.alloc (.cells #[.int .u8 x] 5)).heap[w.heap.size]? with | some (.cells c elem frozen) => c[0]? | _ => none) = _
  rw [heap_alloc_new]
  rfl

theorem last_idx {l : List UInt8} {t : ByteArray} (ht : t.data.toList = l) (h0 : 0 < t.size) : l.getLast? = some (t[t.size - 1]'(by omega)) := by
  subst ht
  rw [List.getLast?_eq_getElem?]
  have : t.data.toList.length = t.size := by rw [Array.length_toList]; rfl
  rw [this, List.getElem?_eq_getElem (by omega)]
  rfl
theorem str_empty {l : List UInt8} {t : ByteArray} (ht : t.data.toList = l) (h0 : ¬ 0 < t.size) : l = [] := by
  subst ht
  have : t.data.toList.length = t.size := by rw [Array.length_toList]; rfl
  exact List.eq_nil_of_length_eq_zero (by omega)

theorem asc_succ {s : ByteArray} {k : Nat} {hk : k < s.size} (h : ∀ i (hi : i < s.size), i < k → (s[i]'hi).toNat ≤ 127) (h2 : (s[k]'hk).toNat ≤ 127) : ∀ i (hi : i < s.size), i < k + 1 → (s[i]'hi).toNat ≤ 127 := by
  intro i hi hik
  by_cases e : i = k
  · subst e; exact h2
  · exact h i hi (by omega)
theorem conv_u8 (c : UInt8) : (strOfNums [(c.toNat : Int)]).data.toList = [c] := by
  rw [strOfNums_data]; simp
theorem cat_data (t : ByteArray) (x : Int) : (t ++ strOfNums [x]).data.toList = t.data.toList ++ (strOfNums [x]).data.toList := by simp

set_option maxHeartbeats 1600000 in
set_option maxRecDepth 100000 in
theorem specSan (s : ByteArray) (w : World) (hs : s.size ≤ 2147483647) :
    Calls Try.prog 17 #[.string s] w fun e w' => SanSaid s e ∧ Below w.heap.size w w' := by
  go_enter Try.func17, Try.ntmps17
  go_wp2
  go_loopw [4, 5] (fun tv iv wr => ∃ (k : Nat) (t : ByteArray), k ≤ s.size ∧ iv = .int .i64 k ∧ tv = .string t ∧ t.data.toList = san (s.data.toList.take k) ∧ (∀ i (hi : i < s.size), i < k → (s[i]'hi).toNat ≤ 127) ∧ Below w.heap.size w wr) (fun _ iv _ => s.size - (intOf iv).toNat)
  case atStart => exact ⟨0, ⟨#[]⟩, Nat.zero_le _, rfl, rfl, by simp [san], by intro i hi h; omega, Below.refl _ _⟩
  case round =>
    obtain ⟨k, t, hk, rfl, rfl, ht, hasc, hb⟩ := hrel
    have HT := Lib.hid ht
    have HA := Lib.hid hasc
    have htz : t.size ≤ k := by
      have h1 := san_len (s.data.toList.take k)
      have h2 : (s.data.toList.take k).length ≤ k := List.length_take_le _ _
      rw [← ht, Array.length_toList] at h1
      exact Nat.le_trans h1 h2
    clear ht hasc
    by_cases hlt : k < s.size
    · have hts := Lib.hid (take_snoc' s k hlt)
      have hcvA := fun wx => conv_byte wx (s[k].toNat : Int)
      have hcvB := fun wx => conv_byte wx 95
      have hzA : (strOfNums [(s[k].toNat : Int)]).size ≤ 1 := by rw [strOfNums_size]; exact Nat.le_refl 1
      have hzB : (strOfNums [95]).size ≤ 1 := by rw [strOfNums_size]; exact Nat.le_refl 1
      by_cases h127 : s[k].toNat ≤ 127
      · have HA2 := Lib.hid (asc_succ HA.out h127)
        by_cases h32 : s[k] = 32
        · have h32i : ((s[k].toNat : Int) == 32) = true := by rw [h32]; rfl
          have HQ : Hid (replU s[k] = 46) := by unfold replU; rw [if_pos h32]; exact rfl
          clear h32
          go_wp2_with fail
          go_roundw
          case rel =>
            refine ⟨k + 1, t ++ ⟨#[46]⟩, by omega, by go_num, rfl, ?_, HA2.out, hb⟩
            rw [hts.out, san_snoc, sanStep_put (by rw [HQ.out]; simp), HQ.out, ← HT.out]; simp
          case measure => simp [intOf]; omega
        · have h32i : ((s[k].toNat : Int) == 32) = false := by
            rw [beq_eq_false_iff_ne]; intro e; exact h32 (UInt8.toNat_inj.1 (by show s[k].toNat = 32; omega))
          have HQ : Hid (replU s[k] = if keepsI s[k].toNat then s[k] else 95) := by unfold replU; rw [if_neg h32]; exact rfl
          clear h32
          cases hkp : keepsI s[k].toNat with
          | true =>
            have HK := Lib.hid hkp
            have hkn : (!keepsI s[k].toNat) = false := by rw [hkp]; rfl
            clear hkp
            by_cases h95 : s[k] = 95
            · have h95i : ((s[k].toNat : Int) == 95) = true := by rw [h95]; rfl
              have HR : Hid (replU s[k] = 95) := by rw [HQ.out, HK.out, h95]; exact rfl
              have H95 := Lib.hid h95
              clear h95
              by_cases h0 : 0 < t.size
              · have hli := Lib.hid (last_idx HT.out h0)
                by_cases hl : t[t.size - 1] = 95
                · have hl9 : ((t[t.size - 1].toNat : Int) == 95) = true := by rw [hl]; rfl
                  have HP : Hid (prevB (san (s.data.toList.take k)) = true) := by unfold prevB; rw [hli.out, hl]; exact rfl
                  clear hl
                  go_wp2_with (go_at_call 27; go_must (refine (graphKeeps_any _ (by omega) (by omega) _).mono ?_; rintro e w1 ⟨rfl, rfl⟩))
                  go_roundw
                  case rel =>
                    refine ⟨k + 1, t, by omega, by go_num, rfl, ?_, HA2.out, hb⟩
                    rw [hts.out, san_snoc, sanStep_skip HR.out HP.out]; exact HT.out
                  case measure => simp [intOf]; omega
                · have hl9 : ((t[t.size - 1].toNat : Int) == 95) = false := u8_beq _ hl
                  have HP : Hid (prevB (san (s.data.toList.take k)) = false) := by unfold prevB; rw [hli.out]; exact beq_eq_false_iff_ne.2 (fun e => hl (Option.some.inj e))
                  clear hl
                  go_wp2_with (go_at_call 27; go_must (refine (graphKeeps_any _ (by omega) (by omega) _).mono ?_; rintro e w1 ⟨rfl, rfl⟩))
                  go_roundw
                  case rel =>
                    refine ⟨k + 1, _, by omega, by go_num, rfl, ?_, HA2.out, hb.alloc hb.size _⟩
                    rw [hts.out, san_snoc, sanStep_put (by rw [HP.out]; simp), HR.out, cat_data, HT.out]; rw [conv_u8, H95.out]
                  case measure => simp [intOf]; omega
              · have HP : Hid (prevB (san (s.data.toList.take k)) = false) := by unfold prevB; rw [str_empty HT.out h0]; exact rfl
                go_wp2_with (go_at_call 27; go_must (refine (graphKeeps_any _ (by omega) (by omega) _).mono ?_; rintro e w1 ⟨rfl, rfl⟩))
                go_roundw
                case rel =>
                  refine ⟨k + 1, _, by omega, by go_num, rfl, ?_, HA2.out, hb.alloc hb.size _⟩
                  rw [hts.out, san_snoc, sanStep_put (by rw [HP.out]; simp), HR.out, cat_data, HT.out]; rw [conv_u8, H95.out]
                case measure => simp [intOf]; omega
            · have h95i := u8_beq _ h95
              have HR : Hid (replU s[k] = s[k]) := by rw [HQ.out, HK.out]; exact rfl
              have H95 := Lib.hid h95
              clear h95
              go_wp2_with (go_at_call 27; go_must (refine (graphKeeps_any _ (by omega) (by omega) _).mono ?_; rintro e w1 ⟨rfl, rfl⟩))
              go_roundw
              case rel =>
                refine ⟨k + 1, _, by omega, by go_num, rfl, ?_, HA2.out, hb.alloc hb.size _⟩
                rw [hts.out, san_snoc, sanStep_put (by rw [HR.out]; intro hh; exact H95.out hh.1), HR.out, cat_data, HT.out]; rw [conv_u8]
              case measure => simp [intOf]; omega
          | false =>
            have HK := Lib.hid hkp
            have hkn : (!keepsI s[k].toNat) = true := by rw [hkp]; rfl
            clear hkp
            have HR : Hid (replU s[k] = 95) := by rw [HQ.out, HK.out]; exact rfl
            by_cases h0 : 0 < t.size
            · have hli := Lib.hid (last_idx HT.out h0)
              by_cases hl : t[t.size - 1] = 95
              · have hl9 : ((t[t.size - 1].toNat : Int) == 95) = true := by rw [hl]; rfl
                have HP : Hid (prevB (san (s.data.toList.take k)) = true) := by unfold prevB; rw [hli.out, hl]; exact rfl
                clear hl
                go_wp2_with (go_at_call 27; go_must (refine (graphKeeps_any _ (by omega) (by omega) _).mono ?_; rintro e w1 ⟨rfl, rfl⟩))
                go_roundw
                case rel =>
                  refine ⟨k + 1, t, by omega, by go_num, rfl, ?_, HA2.out, hb⟩
                  rw [hts.out, san_snoc, sanStep_skip HR.out HP.out]; exact HT.out
                case measure => simp [intOf]; omega
              · have hl9 : ((t[t.size - 1].toNat : Int) == 95) = false := u8_beq _ hl
                have HP : Hid (prevB (san (s.data.toList.take k)) = false) := by unfold prevB; rw [hli.out]; exact beq_eq_false_iff_ne.2 (fun e => hl (Option.some.inj e))
                clear hl
                go_wp2_with (go_at_call 27; go_must (refine (graphKeeps_any _ (by omega) (by omega) _).mono ?_; rintro e w1 ⟨rfl, rfl⟩))
                go_roundw
                case rel =>
                  refine ⟨k + 1, _, by omega, by go_num, rfl, ?_, HA2.out, hb.alloc hb.size _⟩
                  rw [hts.out, san_snoc, sanStep_put (by rw [HP.out]; simp), HR.out, cat_data, HT.out]; exact congrArg _ (conv_u8 95)
                case measure => simp [intOf]; omega
            · have HP : Hid (prevB (san (s.data.toList.take k)) = false) := by unfold prevB; rw [str_empty HT.out h0]; exact rfl
              go_wp2_with (go_at_call 27; go_must (refine (graphKeeps_any _ (by omega) (by omega) _).mono ?_; rintro e w1 ⟨rfl, rfl⟩))
              go_roundw
              case rel =>
                refine ⟨k + 1, _, by omega, by go_num, rfl, ?_, HA2.out, hb.alloc hb.size _⟩
                rw [hts.out, san_snoc, sanStep_put (by rw [HP.out]; simp), HR.out, cat_data, HT.out]; exact congrArg _ (conv_u8 95)
              case measure => simp [intOf]; omega
      · go_wp2_with fail
        go_ret2
        exact ⟨⟨_, _, rfl, by intro h; cases h⟩, hb⟩
    · go_wp2_with fail
      go_ret2
      have hks : k = s.size := by omega
      refine ⟨⟨_, _, rfl, fun _ => ⟨fun i hi => HA.out i hi (by omega), ?_⟩⟩, hb⟩
      rw [HT.out, List.take_of_length_le (by simp; omega)]
end Go.Proofs.Yteibgcmpkgilfaa
