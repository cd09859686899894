/- What writeSanitized, DoorSanitized, Sanitized (of impl and of the reference) come to at ASCII strings, and the law FnSanitized. -/
import Derived.Test.YteibgcmpkgilfaaSan2
import Derived.Lib.Hide
import Derived.Deep.DeepMust
set_option linter.unusedVariables false
set_option linter.unusedSimpArgs false
namespace Go.Proofs.Yteibgcmpkgilfaa
open Go.RowKit

def replU (c : UInt8) : UInt8 := if c = 32 then 46 else if keepsI c.toNat then c else 95
def sanStep (out : List UInt8) (c : UInt8) : List UInt8 := if replU c = 95 ∧ out.getLast? = some 95 then out else out ++ [replU c]
def san (l : List UInt8) : List UInt8 := l.foldl sanStep []
def prevB (l : List UInt8) : Bool := l.getLast? == some 95

theorem san_snoc (l : List UInt8) (c : UInt8) : san (l ++ [c]) = sanStep (san l) c := by simp [san]
theorem sanStep_len (out : List UInt8) (c : UInt8) : (sanStep out c).length ≤ out.length + 1 := by unfold sanStep; split <;> simp
theorem san_len_aux (l out : List UInt8) : (l.foldl sanStep out).length ≤ out.length + l.length := by
  induction l generalizing out with
  | nil => simp
  | cons c r ih => have := ih (sanStep out c); have := sanStep_len out c; simp; omega
theorem san_len (l : List UInt8) : (san l).length ≤ l.length := by have := san_len_aux l []; simpa [san] using this
theorem replU_le (c : UInt8) (h : c.toNat ≤ 127) : (replU c).toNat ≤ 127 := by
  unfold replU; split
  · decide
  · split
    · exact h
    · decide
theorem toNat32 (c : UInt8) : ((c.toNat : Int) = 32) = (c = 32) := by
  apply propext; constructor
  · intro h; exact UInt8.toNat_inj.1 (by show c.toNat = 32; omega)
  · rintro rfl; rfl
theorem replI_u8 (c : UInt8) : replI c.toNat = (replU c).toNat := by
  unfold replI replU
  by_cases h : c = 32
  · subst h; rfl
  · rw [if_neg (by rw [toNat32]; exact h), if_neg h]
    split <;> rfl

theorem take_snoc' (s : ByteArray) (k : Nat) (h : k < s.size) : s.data.toList.take (k + 1) = s.data.toList.take k ++ [s[k]] := by
  rw [List.take_succ_eq_append_getElem (by simpa using h)]; rfl
theorem prevB_snoc (l : List UInt8) (r : UInt8) : prevB (l ++ [r]) = (r == 95) := by simp [prevB]
theorem u8_beq (r : UInt8) (h : r ≠ 95) : ((r.toNat : Int) == 95) = false := by
  rw [beq_eq_false_iff_ne]
  intro e; exact h (UInt8.toNat_inj.1 (by show r.toNat = 95; omega))
theorem sanStep_skip {out : List UInt8} {c : UInt8} (h : replU c = 95) (h2 : prevB out = true) : sanStep out c = out := by
  unfold sanStep; rw [if_pos ⟨h, by simpa [prevB] using h2⟩]
theorem sanStep_put {out : List UInt8} {c : UInt8} (h : ¬ (replU c = 95 ∧ prevB out = true)) : sanStep out c = out ++ [replU c] := by
  unfold sanStep; rw [if_neg (by simpa [prevB] using h)]
theorem othK_iterAt {b k : Nat} {W w : World} (h : OthK b W w) (hk : W.heap.size ≤ k) (s : ByteArray) (p : Nat) : OthK b W (w.iterAt k s p) := by
  intro i o hi hb ho
  have hlt : i < W.heap.size := (Array.getElem?_eq_some_iff.1 hi).1
  rw [Lib.iterAt_other _ _ _ _ _ (by omega)]
  exact h i o hi hb ho

set_option maxHeartbeats 800000 in
set_option maxRecDepth 100000 in
/-- writeSanitized at an ASCII string: the sanitized bytes behind what the builder holds. -/
theorem writeSan (B b : Nat) (l0 : List UInt8) (s : ByteArray) (w : World) (h : Bld B b l0 w) (hBw : B ≤ w.heap.size) (hs : ∀ i (hi : i < s.size), (s[i]'hi).toNat ≤ 127) (hlen : l0.length + s.size ≤ 140737488355327) :
    Calls Try.prog 36 #[.pointer (some ⟨b, 0, none⟩), .string s] w fun e w' => e = .returned .nilIface ∧ (Bld B b (l0 ++ san s.data.toList) w' ∧ Below B w w' ∧ OthK b w w') := by
  have hbw : b < w.heap.size := by rcases h with h | h <;> exact h.lt
  go_enter Try.func36, Try.ntmps36
  go_wp2
  go_loopw [5] (fun pv wr => ∃ pos : Nat, pos ≤ s.size ∧ pv = .bool (prevB (san (s.data.toList.take pos))) ∧ Bld B b (l0 ++ san (s.data.toList.take pos)) wr ∧ wr.heap[w.heap.size]? = some (.stringIter s pos) ∧ Below B w wr ∧ OthK b w wr) (fun _ wr => s.size - wr.iterPos w.heap.size)
  case atStart =>
    refine ⟨0, Nat.zero_le _, rfl, ?_, World.iter_heap w s 0, (Below.refl _ w).alloc hBw _, (Lib.OthersKept.refl _ _ w).alloc _⟩
    rw [show l0 ++ san (s.data.toList.take 0) = l0 by simp [san]]
    exact Lib.IsBuilderF.alloc h _
  case round =>
    obtain ⟨pos, hpos, rfl, hI, hit, hbl, hok⟩ := hrel
    have hpl := san_len (s.data.toList.take pos)
    have htl : (s.data.toList.take pos).length ≤ pos := List.length_take_le _ _
    by_cases hp : pos < s.size
    · have ha := hs pos hp
      have hnx : ∀ ty, (Instr.next (.pointer (some ⟨w.heap.size, 0, none⟩)) true ty).run Try.prog wr = _ := fun ty => Lib.run_next_ascii_at wr w.heap.size s pos ty hit hp (by omega)
      have hI2 := hI.iterAt hit (pos + 1)
      have hit2 := Lib.iterAt_heap wr w.heap.size s pos (pos + 1) hit
      have hbl2 := Lib.below_iterAt hbl (k := w.heap.size) hBw s (pos + 1)
      have hok2 := othK_iterAt hok (k := w.heap.size) (Nat.le_refl _) s (pos + 1)
      have hts := Lib.hid (take_snoc' s pos hp)
      generalize hc : s[pos] = c at *
      have HC := Lib.hid hc; clear hc
      have hr := replU_le c ha
      have hri := replI_u8 c
      generalize hru : replU c = r at *
      have HRU := Lib.hid hru; clear hru
      by_cases h95 : r = 95
      · have e95 : ((r.toNat : Int) == 95) = true := by rw [h95]; rfl
        have H95 := Lib.hid h95
        clear h95
        cases hpv : prevB (san (s.data.toList.take pos)) with
        | true =>
          go_wp2_with (go_at_call 43; go_must (refine (replaceRune_any _ (by omega) (by omega) _).mono ?_; rintro e w1 ⟨rfl, rfl⟩))
          go_roundw
          case rel =>
            refine ⟨pos + 1, by omega, ?_, ?_, hit2, hbl2, hok2⟩
            · rw [hts.out, san_snoc, sanStep_skip (by rw [HRU.out]; exact H95.out) hpv, hpv]
            · rw [hts.out, san_snoc, sanStep_skip (by rw [HRU.out]; exact H95.out) hpv]; exact hI2
          case measure =>
            simp only [World.iterPos, hit2, hit]
            omega
        | false =>
          have HP := Lib.hid hpv
          clear hpv
          go_wp2_with (go_at_call 43; go_must (refine (replaceRune_any _ (by omega) (by omega) _).mono ?_; rintro e w1 ⟨rfl, rfl⟩))
          refine (WriteRune_c w B b _ r hr _ hI2 hbl2 hBw (by simp only [List.length_append]; omega)).mono ?_
          rintro e w2 ⟨rfl, hI3, hbl3, hok3⟩
          go_wp2_with fail
          go_roundw
          case rel =>
            refine ⟨pos + 1, by omega, ?_, ?_, hok3.iter hit2 (by omega), hbl3, hok2.trans hok3⟩
            · rw [hts.out, san_snoc, sanStep_put (by rw [HRU.out]; rw [HP.out]; simp), HRU.out, prevB_snoc, H95.out]; rfl
            · rw [hts.out, san_snoc, sanStep_put (by rw [HRU.out]; rw [HP.out]; simp), HRU.out, ← List.append_assoc]; exact hI3
          case measure =>
            simp only [World.iterPos, hok3.iter hit2 (by omega), hit]
            omega
      · have e95 := u8_beq r h95
        go_wp2_with (go_at_call 43; go_must (refine (replaceRune_any _ (by omega) (by omega) _).mono ?_; rintro e w1 ⟨rfl, rfl⟩))
        refine (WriteRune_c w B b _ r hr _ hI2 hbl2 hBw (by simp only [List.length_append]; omega)).mono ?_
        rintro e w2 ⟨rfl, hI3, hbl3, hok3⟩
        go_wp2_with fail
        go_roundw
        case rel =>
          refine ⟨pos + 1, by omega, ?_, ?_, hok3.iter hit2 (by omega), hbl3, hok2.trans hok3⟩
          · rw [hts.out, san_snoc, sanStep_put (by rw [HRU.out]; intro hh; exact h95 hh.1), HRU.out, prevB_snoc]; rw [beq_eq_false_iff_ne.2 h95]
          · rw [hts.out, san_snoc, sanStep_put (by rw [HRU.out]; intro hh; exact h95 hh.1), HRU.out, ← List.append_assoc]; exact hI3
        case measure =>
          simp only [World.iterPos, hok3.iter hit2 (by omega), hit]
          omega
    · have hnx : ∀ ty, (Instr.next (.pointer (some ⟨w.heap.size, 0, none⟩)) true ty).run Try.prog wr = _ := fun ty => Lib.run_next_end_at wr w.heap.size s pos ty hit hp
      go_wp2_with fail
      go_ret
      rw [List.take_of_length_le (by simp; omega)] at hI
      exact ⟨rfl, hI, hbl, hok⟩
end Go.Proofs.Yteibgcmpkgilfaa
