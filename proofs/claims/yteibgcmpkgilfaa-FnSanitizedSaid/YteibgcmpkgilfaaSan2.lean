/- What graphKeeps and replaceInvalidRune come to, and WriteRune at an ASCII rune. -/
import Derived.Test.YteibgcmpkgilfaaSan
import Derived.Lib.FrozenHead2
import Derived.WalkSpells
import Derived.WalkLawsBesides
set_option linter.unusedVariables false
set_option linter.unusedSimpArgs false
namespace Go.Proofs.Yteibgcmpkgilfaa
open Go.RowKit

set_option maxHeartbeats 2000000 in
set_option maxRecDepth 100000 in
/-- utf8.AppendRune at an ASCII rune: one byte behind the others. -/
theorem AppendRune_ascii (B : Nat) (v : Value) (n : Nat) (xs : List Value) (c : Int) (h0 : 0 ≤ c) (h1 : c ≤ 127) (w : World) (hown : w.ownsRowF B 5 1 v n xs) (hlen : n + 1 ≤ 140737488355328) (hBw : B ≤ w.heap.size) :
    Calls Try.prog 50 #[v, .int .i32 c] w fun e w' => ∃ v', e = .returned v' ∧ w'.ownsRowF B 5 1 v' (n + 1) (xs ++ [.int .u8 c]) ∧ ∃ o, (w.alloc o).grownBy w' v.ownBlock := by
  obtain ⟨i0, hi, hz0, hz1, hz2⟩ := info_parts info_u8
  go_enter Try.func50, Try.ntmps50
  go_wp2_with (at_builtin; go_loud (refine wpList_append_ownF _ rfl _ _ 43 rfl B 5 i0 (.int .u8 0) 1 1 Try.underlying43 hi hz0 hz1 hz2 rfl (by decide) _ _ _ rfl (hown.alloc _) ⟨w.heap.size, 0, none⟩ 1 1 [.int .u8 c] rfl rfl ?c1 ?c2 ?c3 ?c4 ?c5 ?_))
  case c1 =>
    intro j u hj
    match j, hj with
    | 0, hj => simp at hj; subst hj; simp [Addr.add]
  case c2 => intro u hu; simp at hu; subst hu; rfl
  case c3 => unfold maxLen; omega
  case c4 => omega
  case c5 => simp; omega
  intro v' w2 hown' hgrow _
  go_wp2
  go_ret
  exact ⟨_, rfl, hown', _, hgrow⟩

set_option maxHeartbeats 2000000 in
set_option maxRecDepth 100000 in
/-- (*strings.Builder).WriteRune at an ASCII rune: one byte more. -/
theorem WriteRune_c (W : World) (B b : Nat) (l : List UInt8) (c : UInt8) (hc : c.toNat ≤ 127) (w : World) (h : Bld B b l w) (hb : Below B W w) (hBw : B ≤ W.heap.size) (hlen : l.length + 1 ≤ 140737488355328) :
    Calls Try.prog 44 #[.pointer (some ⟨b, 0, none⟩), .int .i32 c.toNat] w fun e w' => e = .returned (.tuple #[.int .i64 1, .nilIface]) ∧ (Bld B b (l ++ [c]) w' ∧ Below B W w' ∧ OthK b w w') := by
  have hl : (Lib.byteCells l).length = l.length := Lib.byteCells_length _
  go_enter Try.func44, Try.ntmps44
  go_wp2_with (go_at_call 40; refine (copyCheck_k B b l _ h).mono ?_)
  rintro e w1 ⟨rfl, h1, hb1, hk1⟩
  obtain ⟨hB, v, hbk, hown, hne⟩ := h1
  have hb2 := hb.trans hb1
  rw [hl] at hown
  obtain ⟨ao, cap, rfl⟩ : ∃ ao cap, v = .slice ao l.length cap := by
    rcases hown.2 with ⟨hv, h0⟩ | ⟨g, cap, cur, fz, hv, _⟩
    · exact ⟨none, 0, by rw [hv, h0]⟩
    · exact ⟨_, _, hv⟩
  have c0 : w1.cell? ⟨b, 0, none⟩ = some (.pointer (some ⟨b, 0, none⟩)) := by rw [Lib.cell_of_heap hbk]; rfl
  have c1 : w1.cell? ⟨b, 1, none⟩ = some (.slice ao l.length cap) := by rw [Lib.cell_of_heap hbk]; rfl
  go_wp2_with (go_at_call 50; refine (AppendRune_ascii B _ l.length _ _ (by omega) (by omega) _ hown hlen (by have := hb2.size; omega)).mono ?_)
  rintro e w2 ⟨v', rfl, hown', o, hgrow⟩
  have hlt : b < w1.heap.size := by
    rcases Nat.lt_or_ge b w1.heap.size with h' | h'
    · exact h'
    · simp [Array.getElem?_eq_none h'] at hbk
  have hbk2 : w2.heap[b]? = some (.cells #[.pointer (some ⟨b, 0, none⟩), .slice ao l.length cap] 46 (0, 0)) := by
    rw [hgrow.block b (by simp; omega) (fun e => hne e.symm), Lib.alloc_old w1 _ b hlt]
    exact hbk
  have d0 : w2.cell? ⟨b, 0, none⟩ = some (.pointer (some ⟨b, 0, none⟩)) := by rw [Lib.cell_of_heap hbk2]; rfl
  have d1 : w2.cell? ⟨b, 1, none⟩ = some (.slice ao l.length cap) := by rw [Lib.cell_of_heap hbk2]; rfl
  have f1 : w2.frozen? ⟨b, 1, none⟩ = false := Lib.frozen_of_heap hbk2 1
  obtain ⟨g, cap', rfl⟩ : ∃ g cap', v' = .slice (some ⟨g, 0, none⟩) (l.length + 1) cap' := by
    rcases hown'.2 with ⟨_, h0⟩ | ⟨g, cap', cur, fz, hv, _⟩
    · omega
    · exact ⟨g, cap', hv⟩
  go_wp2
  go_ret2
  refine ⟨?_, ?_, ?_, ((hk1.alloc _).grown hgrow (Lib.ownsRowF_kind (hown.alloc _))).setCell ⟨b, 1, none⟩ rfl _⟩
  · have e : ((l.length : Int) + 1 - (l.length : Int)) = 1 := by omega
    simp [e]
  · refine .inr (Lib.BuilderAtF.put (T := 46) (e := 5) hB hbk2 (bs' := Lib.byteCells (l ++ [c])) ?_ (by decide))
    have e1 : Lib.byteCells (l ++ [c]) = Lib.byteCells l ++ [.int .u8 c.toNat] := by simp [Lib.byteCells]
    rw [e1, List.length_append, hl]
    exact hown'
  · exact ((hb2.alloc (by have := hb2.size; omega) _).grown hgrow (by have := hb2.size; simp; omega) (fun k hk => (hown.lt k hk).1)).setCell (p := ⟨b, 1, none⟩) hB _
end Go.Proofs.Yteibgcmpkgilfaa
