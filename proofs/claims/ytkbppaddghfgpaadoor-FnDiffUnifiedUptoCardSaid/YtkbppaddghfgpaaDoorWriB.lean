/- Strings of a slice that lie the same in every world of a kind. -/
import Derived.Test.YtkbppaddghfgpaaDoorWriA
set_option linter.unusedVariables false
namespace Go.Proofs.YtkbppaddghfgpaaDoor
open Go.RowKit Go.Maps

theorem str_cut {R : World → Prop} {w : World} {p : Option Addr} {n cap : Nat} {xs : List ByteArray} (hw : R w) (h : ∀ z, R z → RdC Value.string z (.slice p n cap) xs) :
    n = xs.length ∧ n ≤ cap ∧ cap ≤ maxLen ∧ ∃ b off, (0 < n → p = some ⟨b, off, none⟩) ∧ ∀ z, R z → ∀ i x, xs[i]? = some x → z.cell? ⟨b, off + i, none⟩ = some (.string x) := by
  obtain ⟨p1, cap1, b, off, he, hc, hm, hp, hcell⟩ := h w hw
  injection he with e1 e2 e3
  subst e1 e2 e3
  refine ⟨rfl, hc, hm, b, off, fun hn => ?_, fun z hz i x hx => ?_⟩
  · rcases hp with hp | hp
    · rw [hp] at hn; exact absurd hn (Nat.lt_irrefl 0)
    · exact hp
  · obtain ⟨p2, cap2, b2, off2, he2, _, _, hp2, hcell2⟩ := h z hz
    injection he2 with e1 _ _
    subst e1
    rcases hp with hp | hp
    · rw [hp] at hx; simp at hx
    · rcases hp2 with hp2 | hp2
      · rw [hp2] at hx; simp at hx
      · rw [hp] at hp2
        injection hp2 with hp2
        injection hp2 with e1 e2
        subst e1 e2
        exact hcell2 i x hx
theorem lets_get (ls : List ByteArray) (k : Nat) (h : k < ls.length) : lets (ls.take k) + ls[k].size + 1 ≤ lets ls := lets_take ls k h
theorem part_len (a : List ByteArray) (i j : Nat) (h : j ≤ a.length) : (part a i j).length = j - i := by
  unfold part
  rw [List.length_drop, List.length_take, Nat.min_eq_left h]
theorem part_none (a : List ByteArray) (i j : Nat) (h : j ≤ i) : part a i j = [] := by
  unfold part
  rw [List.drop_eq_nil_iff, List.length_take]
  omega
end Go.Proofs.YtkbppaddghfgpaaDoor
