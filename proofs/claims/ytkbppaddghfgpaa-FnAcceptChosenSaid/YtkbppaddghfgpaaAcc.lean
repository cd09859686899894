/- What zzIndexRune, zzContainsRune and octetTypeOf come to, at ASCII bytes. -/
import Derived.Test.YtkbppaddghfgpaaSl
import Derived.Deep.DeepMust
import Derived.WalkSpells
import Derived.WalkLawsBesides
import Derived.Lib.OthersKept
import Derived.Laws.BitsAllLaws
set_option linter.unusedVariables false
set_option linter.unusedSimpArgs false
namespace Go.Proofs.Ytkbppaddghfgpaa
open Go.RowKit

def hasB (l : List UInt8) (r : Int) : Bool := l.any fun c => decide ((c.toNat : Int) = r)
theorem hasB_take_succ (s : ByteArray) (k : Nat) (h : k < s.size) (r : Int) : hasB (s.data.toList.take (k + 1)) r = (hasB (s.data.toList.take k) r || decide ((s[k].toNat : Int) = r)) := by
  have : s.data.toList.take (k + 1) = s.data.toList.take k ++ [s[k]] := by rw [List.take_succ_eq_append_getElem (by simpa using h)]; rfl
  rw [this]; simp [hasB]
def IdxSaid (s : ByteArray) (r : Int) (e : Ending) : Prop := ∃ n : Int, e = .returned (.int .i64 n) ∧ decide (0 ≤ n) = hasB s.data.toList r

set_option maxHeartbeats 800000 in
set_option maxRecDepth 100000 in
theorem idxRune (s : ByteArray) (r : Int) (w : World) (hr0 : 0 ≤ r) (hr1 : r ≤ 255) (hs : ∀ i (hi : i < s.size), (s[i]'hi).toNat ≤ 127) (hm : s.size ≤ 2147483647) :
    Calls Try.prog 81 #[.string s, .int .i32 r] w fun e w' => IdxSaid s r e ∧ Below w.heap.size w w' := by
  have d1 : (r != 65533) = true := by rw [bne_iff_ne]; omega
  have d2 : decide (r < 0) = false := decide_eq_false (by omega)
  have d3 : decide (1114111 < r) = false := decide_eq_false (by omega)
  have d4 : decide (55296 ≤ r) = false := decide_eq_false (by omega)
  go_enter Try.func81, Try.ntmps81
  go_wp2
  go_loopw [] (fun wr => ∃ k : Nat, k ≤ s.size ∧ hasB (s.data.toList.take k) r = false ∧ wr.heap[w.heap.size]? = some (.stringIter s k) ∧ Below w.heap.size w wr) (fun wr => s.size - wr.iterPos w.heap.size)
  case atStart => exact ⟨0, Nat.zero_le _, rfl, World.iter_heap w s 0, (Below.refl _ w).alloc (Nat.le_refl _) _⟩
  case round =>
    obtain ⟨k, hk, hno, hit, hb⟩ := hrel
    have HNO := Lib.hid hno
    clear hno
    by_cases hp : k < s.size
    · have ha := hs k hp
      have hnx : ∀ ty, (Instr.next (.pointer (some ⟨w.heap.size, 0, none⟩)) true ty).run Try.prog wr = _ := fun ty => Lib.run_next_ascii_at wr w.heap.size s k ty hit hp (by omega)
      have hit2 := Lib.iterAt_heap wr w.heap.size s k (k + 1) hit
      have hb2 := Lib.below_iterAt hb (k := w.heap.size) (Nat.le_refl _) s (k + 1)
      have HT := Lib.hid (hasB_take_succ s k hp r)
      by_cases he : (s[k].toNat : Int) = r
      · have HE := Lib.hid he
        have hq : ((s[k].toNat : Int) == r) = true := beq_iff_eq.2 he
        clear he
        go_wp2_with fail
        go_ret
        refine ⟨⟨k, rfl, ?_⟩, hb2⟩
        have h1 : hasB s.data.toList r = true := by
          unfold hasB
          rw [List.any_eq_true]
          refine ⟨s[k], ?_, decide_eq_true HE.out⟩
          exact List.getElem_mem (l := s.data.toList) (by simpa using hp)
        rw [h1]
        exact decide_eq_true (by omega)
      · have HE := Lib.hid he
        have hq : ((s[k].toNat : Int) == r) = false := beq_eq_false_iff_ne.2 he
        clear he
        go_wp2_with fail
        go_roundw
        case rel => exact ⟨k + 1, by omega, by rw [HT.out, HNO.out, decide_eq_false HE.out]; rfl, hit2, hb2⟩
        case measure =>
          simp only [World.iterPos, hit2, hit]
          omega
    · have hnx : ∀ ty, (Instr.next (.pointer (some ⟨w.heap.size, 0, none⟩)) true ty).run Try.prog wr = _ := fun ty => Lib.run_next_end_at wr w.heap.size s k ty hit hp
      go_wp2_with fail
      go_ret
      refine ⟨⟨-1, rfl, ?_⟩, hb⟩
      rw [List.take_of_length_le (by simp; omega)] at HNO
      rw [HNO.out]
      rfl

theorem hasRune (s : ByteArray) (r : Int) (w : World) (hr0 : 0 ≤ r) (hr1 : r ≤ 255) (hs : ∀ i (hi : i < s.size), (s[i]'hi).toNat ≤ 127) (hm : s.size ≤ 2147483647) :
    Calls Try.prog 75 #[.string s, .int .i32 r] w fun e w' => e = .returned (.bool (hasB s.data.toList r)) ∧ Below w.heap.size w w' := by
  go_enter Try.func75, Try.ntmps75
  go_wp2_with fail
  refine (idxRune s r _ hr0 hr1 hs hm).mono ?_
  rintro e w1 ⟨⟨n, rfl, hn⟩, hb⟩
  have HN := Lib.hid hn
  clear hn
  go_wp2_with fail
  go_ret
  exact ⟨ret_bool HN.out, hb⟩

theorem ret_int8 {k : IntKind} {a b : Int} (h : a = b) : Ending.returned (.int k a) = .returned (.int k b) := by rw [h]
def sepS : ByteArray := ⟨#[32, 9, 34, 40, 41, 44, 47, 58, 59, 60, 61, 62, 63, 64, 91, 93, 92, 123, 125]⟩
def spcS : ByteArray := ⟨#[32, 9, 13, 10]⟩
theorem sep_asc : ∀ i (hi : i < sepS.size), (sepS[i]'hi).toNat ≤ 127 := by decide
theorem spc_asc : ∀ i (hi : i < spcS.size), (spcS[i]'hi).toNat ≤ 127 := by decide
/-- The bits of a byte: 1: it may stand in a token; 2: it is a space. -/
def tokB (c : Int) : Bool := decide (c ≤ 126 ∧ 32 ≤ c) && !hasB sepS.data.toList c
def octB (c : Int) : Int := (if hasB spcS.data.toList c then 2 else 0) + (if tokB c then 1 else 0)
theorem tok_t {c : Int} (h : c ≤ 126 ∧ 32 ≤ c) (h2 : hasB sepS.data.toList c = false) : tokB c = true := by unfold tokB; rw [decide_eq_true h, h2]; rfl
theorem tok_f1 {c : Int} (h : ¬ (c ≤ 126 ∧ 32 ≤ c)) : tokB c = false := by unfold tokB; rw [decide_eq_false h]; rfl
theorem tok_f2 {c : Int} (h2 : hasB sepS.data.toList c = true) : tokB c = false := by unfold tokB; rw [h2]; exact Bool.and_false _

set_option maxHeartbeats 1600000 in
set_option maxRecDepth 100000 in
theorem octet (c : Int) (w : World) (h0 : 0 ≤ c) (h1 : c ≤ 255) :
    Calls Try.prog 68 #[.int .u8 c] w fun e w' => e = .returned (.int .u8 (octB c)) ∧ Below w.heap.size w w' := by
  cases ha : hasB spcS.data.toList c <;> cases hb : hasB sepS.data.toList c <;> rcases (by omega : c ≤ 31 ∨ (32 ≤ c ∧ c ≤ 126) ∨ c = 127 ∨ 128 ≤ c) with hc | ⟨hc, hc'⟩ | hc | hc
  all_goals
    have HA := Lib.hid ha
    have HB := Lib.hid hb
    clear ha hb
    try subst hc
    try have q1 : (c == 127) = false := by rw [beq_eq_false_iff_ne]; omega
    try first | have q2 : decide (c ≤ 31) = true := decide_eq_true (by omega) | have q2 : decide (c ≤ 31) = false := decide_eq_false (by omega)
    try first | have q3 : decide (c ≤ 127) = true := decide_eq_true (by omega) | have q3 : decide (c ≤ 127) = false := decide_eq_false (by omega)
    try have q4 : decide (0 ≤ c) = true := decide_eq_true (by omega)
    go_enter Try.func68, Try.ntmps68
    go_wp2_with fail
    refine (hasRune sepS _ _ (by omega) (by omega) sep_asc (by decide)).mono ?_
    rintro e w1 ⟨rfl, hb1⟩
    rw [HB.out]
    go_wp2_with fail
    refine (hasRune spcS _ _ (by omega) (by omega) spc_asc (by decide)).mono ?_
    rintro e w2 ⟨rfl, hb2⟩
    rw [HA.out]
    go_wp2_with fail
    go_ret
    refine ⟨ret_int8 ?_, hb1.trans (hb2.mono hb1.size)⟩
    unfold octB
    rw [HA.out]
    first | rw [tok_t (by omega) HB.out] | rw [tok_f1 (by omega)] | rw [tok_f2 HB.out]
    rfl
end Go.Proofs.Ytkbppaddghfgpaa
