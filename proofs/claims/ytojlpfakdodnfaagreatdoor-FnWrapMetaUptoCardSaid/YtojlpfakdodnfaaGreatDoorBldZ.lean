/- What the methods of strings.Builder that this seat reaches do to a builder in a block of its own: the bytes are appended, everything below the block and every other block that holds no bytes stands as it was. -/
import Derived.Test.YtojlpfakdodnfaaGreatDoorShelf2
import Derived.Test.YtojlpfakdodnfaaGreatDoorRows
import Derived.Shelf.Strings.BuilderK
import Derived.Lib.OthersKept
import Derived.WalkKit
import Derived.OwnWalk
set_option linter.unusedVariables false
namespace Go.Proofs.YtojlpfakdodnfaaGreatDoor
open Go.RowKit

/-- A builder in block b (of the call's own, from B on) that holds the bytes l. -/
abbrev Bld (B b : Nat) (l : List UInt8) (w : World) : Prop := Lib.IsBuilderF 98 5 B b (Lib.byteCells l) w
abbrev OthK (b : Nat) (w w' : World) : Prop := Lib.OthersKept 5 (some b) w w'

theorem info_bld : (Tryz.prog.info? 98).map (·.size) = some 2 := by kernel_rfl
theorem info_u8 : (Tryz.prog.info? 5).map (fun i => (i.zero, i.size, i.bytes)) = some (some (.int .u8 0), 1, 1) := by kernel_rfl

set_option maxHeartbeats 1000000 in
set_option maxRecDepth 100000 in
theorem copyCheck_fresh (b : Nat) (w : World) (h0 : w.cell? ⟨b, 0, none⟩ = some (.pointer none)) (hsh : w.shape? b = some (98, 2)) (hfz : w.frozen? ⟨b, 0, none⟩ = false) :
    Calls Tryz.prog 67 #[.pointer (some ⟨b, 0, none⟩)] w fun e w' => e = .returned (.tuple #[]) ∧ w' = w.setCell ⟨b, 0, none⟩ (.pointer (some ⟨b, 0, none⟩)) := by
  obtain ⟨j, hj, hjs⟩ := Option.map_eq_some_iff.1 info_bld
  go_enter Tryz.func67, Tryz.ntmps67
  go_wp2
  rw [Lib.run_to_unsafe w ⟨b, 0, none⟩ Tryz.underlying95 Tryz.underlying132 hj (by rw [hjs]; decide) hsh (Nat.zero_lt_succ 1)]
  simp only [Result.andThen]
  rw [Oper.upon_value]
  go_wp2
  rw [run_callFunc_extern Tryz.func75 (by kernel_rfl) (by kernel_rfl) (by kernel_rfl) (e := Extern.AbiNoEscape.same) (by kernel_rfl)]
  rw [Lib.run_noEscape]
  simp only [Result.andThen]
  rw [Oper.upon_value]
  go_wp2
  rw [Lib.run_from_unsafe w ⟨b, 0, none⟩ Tryz.underlying132 Tryz.underlying95 hj hsh (by kernel_rfl)]
  simp only [Result.andThen]
  rw [Oper.upon_value]
  go_wp2
  go_end0
  exact ⟨rfl, rfl⟩

set_option maxHeartbeats 1000000 in
set_option maxRecDepth 100000 in
theorem copyCheck_used (b : Nat) (w : World) (h0 : w.cell? ⟨b, 0, none⟩ = some (.pointer (some ⟨b, 0, none⟩))) :
    Calls Tryz.prog 67 #[.pointer (some ⟨b, 0, none⟩)] w fun e w' => e = .returned (.tuple #[]) ∧ w' = w := by
  obtain ⟨j, hj, hjs⟩ := Option.map_eq_some_iff.1 info_bld
  have hne := Lib.run_neq_ptr_same (P := Tryz.prog) (w := w) ⟨b, 0, none⟩ Tryz.underlying95 hj
  go_enter Tryz.func67, Tryz.ntmps67
  go_wp2
  go_end0
  exact ⟨rfl, rfl⟩

theorem copyCheck_k (B b : Nat) (l : List UInt8) (w : World) (h : Bld B b l w) :
    Calls Tryz.prog 67 #[.pointer (some ⟨b, 0, none⟩)] w fun e w' => e = .returned (.tuple #[]) ∧ (Lib.BuilderAtF 98 5 B b (.pointer (some ⟨b, 0, none⟩)) (Lib.byteCells l) w' ∧ Below B w w' ∧ OthK b w w') := by
  rcases h with h | h
  · refine (copyCheck_fresh b w h.cell0 h.shape h.frozen0).mono ?_
    rintro e w' ⟨rfl, rfl⟩
    exact ⟨rfl, h.used _, (Below.refl B w).setCell (p := ⟨b, 0, none⟩) h.1 _, (Lib.OthersKept.refl _ _ w).setCell ⟨b, 0, none⟩ rfl _⟩
  · refine (copyCheck_used b w h.cell0).mono ?_
    rintro e w' ⟨rfl, rfl⟩
    exact ⟨rfl, h, Below.refl B _, Lib.OthersKept.refl _ _ _⟩

theorem strCells_byteCells (s : ByteArray) : Lib.strCells s = Lib.byteCells s.data.toList := by
  simp [Lib.strCells, Lib.byteCells]

set_option maxHeartbeats 2000000 in
set_option maxRecDepth 100000 in
/-- (*strings.Builder).WriteString: the bytes of s are appended. -/
theorem WriteString_k (B b : Nat) (l : List UInt8) (s : ByteArray) (w : World) (h : Bld B b l w) (hlen : l.length + s.size ≤ 140737488355328) (hBw : B ≤ w.heap.size) :
    Calls Tryz.prog 57 #[.pointer (some ⟨b, 0, none⟩), .string s] w fun e w' => e = .returned (.tuple #[.int .i64 s.size, .nilIface]) ∧ (Bld B b (l ++ s.data.toList) w' ∧ Below B w w' ∧ OthK b w w') := by
  obtain ⟨i0, hi, hz0, hz1, hz2⟩ := info_parts info_u8
  have hl : (Lib.byteCells l).length = l.length := Lib.byteCells_length _
  go_enter Tryz.func57, Tryz.ntmps57
  go_wp2_with (go_at_call 67; refine (copyCheck_k B b l _ h).mono ?_)
  rintro e w1 ⟨rfl, h1, hb1, hk1⟩
  obtain ⟨hB, v, hbk, hown, hne⟩ := h1
  have c0 : w1.cell? ⟨b, 0, none⟩ = some (.pointer (some ⟨b, 0, none⟩)) := by rw [Lib.cell_of_heap hbk]; rfl
  have c1 : w1.cell? ⟨b, 1, none⟩ = some v := by rw [Lib.cell_of_heap hbk]; rfl
  go_wp2_with (at_builtin; refine Lib.wpList_append_own_stringF _ rfl _ _ 96 9 rfl B 5 i0 Tryz.underlying96 Tryz.underlying9 hi hz0 hz1 hz2 _ _ _ rfl hown s rfl ?c3 ?c4 ?c5 ?_)
  case c3 => unfold maxLen; omega
  case c4 => omega
  case c5 => have := hb1.size; omega
  intro v' w2 hown' hgrow _
  have hlt : b < w1.heap.size := by
    rcases Nat.lt_or_ge b w1.heap.size with h' | h'
    · exact h'
    · simp [Array.getElem?_eq_none h'] at hbk
  have hb2 : w2.heap[b]? = some (.cells #[.pointer (some ⟨b, 0, none⟩), v] 98 (0, 0)) := by
    rw [hgrow.block b hlt (fun e => hne e.symm)]
    exact hbk
  have d0 : w2.cell? ⟨b, 0, none⟩ = some (.pointer (some ⟨b, 0, none⟩)) := by rw [Lib.cell_of_heap hb2]; rfl
  have d1 : w2.cell? ⟨b, 1, none⟩ = some v := by rw [Lib.cell_of_heap hb2]; rfl
  have f1 : w2.frozen? ⟨b, 1, none⟩ = false := Lib.frozen_of_heap hb2 1
  obtain ⟨ao, n', cap, rfl⟩ : ∃ ao n' cap, v' = .slice ao n' cap := by
    rcases hown'.2 with ⟨hv, _⟩ | ⟨g, cap, cur, fz, hv, _⟩
    · exact ⟨_, _, _, hv⟩
    · exact ⟨_, _, _, hv⟩
  go_wp2
  go_ret2
  refine ⟨rfl, ?_, ?_, (hk1.grown hgrow (Lib.ownsRowF_kind hown)).setCell ⟨b, 1, none⟩ rfl _⟩
  · refine .inr (Lib.BuilderAtF.put (T := 98) (e := 5) hB hb2 (bs' := Lib.byteCells (l ++ s.data.toList)) ?_ (by decide))
    have e1 : Lib.byteCells (l ++ s.data.toList) = Lib.byteCells l ++ Lib.strCells s := by rw [strCells_byteCells]; simp [Lib.byteCells]
    rw [e1, List.length_append, Lib.strCells_length, hl]
    exact hown'
  · exact (hb1.grown hgrow (by have := hb1.size; omega) (fun k hk => (hown.lt k hk).1)).setCell (p := ⟨b, 1, none⟩) hB _

theorem Grow_k (B b n : Nat) (w : World) (hB : B ≤ b) (hbk : w.heap[b]? = some (.cells #[.pointer none, .slice none 0 0] 98 (0, 0))) (hBw : B ≤ w.heap.size) (hn : n ≤ 281474976710656) :
    Calls Tryz.prog 56 #[.pointer (some ⟨b, 0, none⟩), .int .i64 n] w fun e w' => e = .returned (.tuple #[]) ∧ (Bld B b [] w' ∧ Below B w w') :=
  (Tryz.Builder_Grow_fresh B b n w hB hbk hBw hn).mono fun _ _ ⟨h1, h2, h3⟩ => ⟨h1, Lib.IsBuilderF.of (.inr h2), h3⟩

theorem String_k (B b : Nat) (l : List UInt8) (w : World) (h : Bld B b l w) (hBw : B ≤ w.heap.size) :
    Calls Tryz.prog 58 #[.pointer (some ⟨b, 0, none⟩)] w fun e w' => e = .returned (.string ⟨l.toArray⟩) ∧ (Bld B b l w' ∧ Below B w w' ∧ OthK b w w') :=
  Tryz.Builder_String_any_k B b l w h hBw

/-- The same two along a chain that began at the world W. -/
theorem Grow_c (W : World) (n : Int) (w : World) (hw : w = W.alloc (.cells #[.pointer none, .slice none 0 0] 98)) (hn0 : 0 ≤ n) (hn : n ≤ 281474976710656) :
    Calls Tryz.prog 56 #[.pointer (some ⟨W.heap.size, 0, none⟩), .int .i64 n] w fun e w' => e = .returned (.tuple #[]) ∧ Bld W.heap.size W.heap.size [] w' ∧ Below W.heap.size W w' := by
  obtain ⟨k, rfl⟩ := Int.eq_ofNat_of_zero_le hn0
  subst hw
  refine (Grow_k W.heap.size W.heap.size k _ (Nat.le_refl _) ?_ (by simp) (by omega)).mono ?_
  · exact heap_alloc_new W _
  · rintro e w' ⟨rfl, h1, h2⟩
    exact ⟨rfl, h1, ((Below.refl _ W).alloc (Nat.le_refl _) _).trans h2⟩

theorem Write_c (W : World) (B b : Nat) (l : List UInt8) (s : ByteArray) (w : World) (h : Bld B b l w) (hb : Below B W w) (hBw : B ≤ W.heap.size) (hlen : l.length + s.size ≤ 140737488355328) :
    Calls Tryz.prog 57 #[.pointer (some ⟨b, 0, none⟩), .string s] w fun e w' => e = .returned (.tuple #[.int .i64 s.size, .nilIface]) ∧ Bld B b (l ++ s.data.toList) w' ∧ Below B W w' :=
  (WriteString_k B b l s w h hlen (by have := hb.size; omega)).mono fun _ _ ⟨h1, h2, h3, _⟩ => ⟨h1, h2, hb.trans h3⟩

theorem String_c (W : World) (B b : Nat) (l : List UInt8) (w : World) (h : Bld B b l w) (hb : Below B W w) (hBw : B ≤ W.heap.size) :
    Calls Tryz.prog 58 #[.pointer (some ⟨b, 0, none⟩)] w fun e w' => e = .returned (.string ⟨l.toArray⟩) ∧ Below B W w' :=
  (String_k B b l w h (by have := hb.size; omega)).mono fun _ _ ⟨h1, _, h3, _⟩ => ⟨h1, hb.trans h3⟩

theorem fresh_bld (w : World) : Bld w.heap.size w.heap.size [] (w.alloc (.cells #[.pointer none, .slice none 0 0] 98)) :=
  Lib.IsBuilderF.of (Lib.fresh_isBuilder _ _ w)

end Go.Proofs.YtojlpfakdodnfaaGreatDoor
