/- The reference's lines with a prefix; groups as slices of slices. -/
import Derived.Test.YtkbppaddghfgpaaDoorNum2
import Derived.Test.YtkbppaddghfgpaaDoorDif22D
set_option linter.unusedVariables false
set_option linter.unusedSimpArgs false
namespace Go.Proofs.YtkbppaddghfgpaaDoor
open Go.RowKit Go.Maps

theorem bytes_app1 (l : List UInt8) (x : ByteArray) : (⟨l.toArray⟩ : ByteArray) ++ x = ⟨(l ++ x.data.toList).toArray⟩ := by
  apply ByteArray.ext
  simp
theorem linesT_take (p : UInt8) (ls : List ByteArray) (k : Nat) (h : k < ls.length) : linesT p (ls.take (k + 1)) = (linesT p (ls.take k) ++ [p]) ++ ls[k].data.toList := by
  rw [List.take_succ_eq_append_getElem h]
  unfold linesT
  rw [List.flatMap_append]
  simp only [List.flatMap_cons, List.flatMap_nil, List.append_nil, List.append_assoc, List.singleton_append]
theorem lets_take (ls : List ByteArray) (k : Nat) (h : k < ls.length) : lets (ls.take k) + ls[k].size + 1 ≤ lets ls := by
  have h1 := lets_app (ls.take (k + 1)) (ls.drop (k + 1))
  rw [List.take_append_drop, List.take_succ_eq_append_getElem h, lets_app] at h1
  simp [lets] at h1
  omega

set_option maxHeartbeats 800000 in
set_option maxRecDepth 100000 in
theorem diffJoined (p : UInt8) (s : ByteArray) (hs : s = ⟨#[p]⟩) (v : Value) (ls : List ByteArray) (w : World) (hv : RdC Value.string w v ls) (hl : lets ls ≤ 4194304) :
    Calls Tryd.prog 13 #[.string s, v] w fun e w' => e = .returned (.string ⟨(linesT p ls).toArray⟩) ∧ w' = w := by
  obtain ⟨ap, acap, ab, aoff, rfl, hac, hamx, hap, hacell⟩ := hv
  unfold maxLen at hamx
  have HAC := Lib.hid hacell
  have HS := Lib.hid hs
  have hs1 : s.size = 1 := by rw [hs]; rfl
  clear hacell hs
  go_enter Tryd.func13, Tryd.ntmps13
  go_wp2_with fail
  go_loop [5, 6] (fun v5 v6 => ∃ k : Nat, k ≤ ls.length ∧ v5 = .string ⟨(linesT p (ls.take k)).toArray⟩ ∧ v6 = .int .i64 (k : Int)) (fun _ v6 => ls.length - (intOf v6).toNat)
  case atStart => exact ⟨0, Nat.zero_le _, rfl, rfl⟩
  case round =>
    obtain ⟨k, hk, rfl, rfl⟩ := hrel
    by_cases hlt : k < ls.length
    · have hlt' : (k : Int) < (ls.length : Int) := by omega
      obtain rfl : ap = some ⟨ab, aoff, none⟩ := by
        rcases hap with h | h
        · rw [h] at hlt; exact absurd hlt (Nat.not_lt_zero _)
        · exact h
      have ca := HAC.out k ls[k] (List.getElem?_eq_getElem hlt)
      have hsz := lets_take ls k hlt
      have HN := Lib.hid (linesT_take p ls k hlt)
      have hpl := linesT_len p (ls.take k)
      generalize linesT p (ls.take k) = T at *
      generalize ls[k] = x at *
      go_wp2_with fail
      go_round
      case rel => exact ⟨k + 1, by omega, by rw [HN.out, HS.out]; exact congrArg Value.string (by rw [← bytes_app1, ← bytes_app]), by go_num⟩
      case measure => simp [intOf]; omega
    · have hkl : k = ls.length := by omega
      have hlt' : ¬ (k : Int) < (ls.length : Int) := by omega
      subst hkl
      rw [List.take_length] at *
      go_wp2_with fail
      go_ret
      exact ⟨rfl, rfl⟩

/-- A slice of slices of edits. -/
def RdL (w : World) (v : Value) (gs : List (List Ed)) : Prop :=
  ∃ p cap b off, v = .slice p gs.length cap ∧ gs.length ≤ cap ∧ cap ≤ maxLen ∧ (gs = [] ∨ p = some ⟨b, off, none⟩) ∧ ∀ (i : Nat) (g : List Ed), gs[i]? = some g → ∃ vi, w.cell? ⟨b, off + i, none⟩ = some vi ∧ RdF w vi g
theorem RdL.below {w w' : World} {v : Value} {gs : List (List Ed)} (h : RdL w v gs) (hb : Below w.heap.size w w') : RdL w' v gs := by
  obtain ⟨p, cap, b, off, h1, h2, h3, h4, h5⟩ := h
  refine ⟨p, cap, b, off, h1, h2, h3, h4, fun i g hg => ?_⟩
  obtain ⟨vi, h6, h7⟩ := h5 i g hg
  exact ⟨vi, (hb.cell (p := ⟨b, off + i, none⟩) (World.block_lt_of_cell? w _ h6)).trans h6, h7.below hb⟩
end Go.Proofs.YtkbppaddghfgpaaDoor
