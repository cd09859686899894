/- The edits that match are the blocks without the last one. -/
import Derived.Test.YtkbppaddghfgpaaDifE
set_option linter.unusedVariables false
set_option linter.unusedSimpArgs false
namespace Go.Proofs.Ytkbppaddghfgpaa

/-- The edits of tag 101 are the blocks but the last one, in order. -/
def Mt : List Ed → List Tri → Prop
  | [], ms => ms.length = 1
  | e :: r, ms => (e.tag ≠ 101 ∧ Mt r ms) ∨ (e.tag = 101 ∧ ∃ m q, ms = m :: q ∧ e.i1 = m.1 ∧ e.i2 = m.1 + m.2.2 ∧ e.j1 = m.2.1 ∧ Mt r q)
variable {a b : List ByteArray}
theorem edits_mt : ∀ (ms : List Tri) (i j : Nat) (adj : Bool), Chn a b i j adj ms → Mt (ms.foldl opStep ([], i, j)).1 ms
  | [], i, j, adj, h => h.elim
  | t :: r, i, j, adj, h => by
    obtain ⟨h1, h2, h3⟩ := h
    rw [List.foldl_cons]
    have e : opStep ([], i, j) t = ((if 0 < tagOf i t.1 j t.2.1 then [(⟨tagOf i t.1 j t.2.1, i, t.1, j, t.2.1⟩ : Ed)] else []) ++ (if 0 < t.2.2 then [(⟨101, t.1, t.1 + t.2.2, t.2.1, t.2.1 + t.2.2⟩ : Ed)] else []), t.1 + t.2.2, t.2.1 + t.2.2) := by
      unfold opStep
      simp only
      split <;> split <;> simp
    rw [e, op_out, List.append_assoc]
    have rest : Mt ((if 0 < t.2.2 then [(⟨101, t.1, t.1 + t.2.2, t.2.1, t.2.1 + t.2.2⟩ : Ed)] else []) ++ (r.foldl opStep ([], t.1 + t.2.2, t.2.1 + t.2.2)).1) (t :: r) := by
      rcases h3 with ⟨rfl, rfl⟩ | ⟨hk, he, _, hr⟩
      · rw [if_neg (by simp)]
        rfl
      · rw [if_pos hk]
        exact .inr ⟨rfl, t, r, rfl, rfl, rfl, rfl, edits_mt r _ _ true hr⟩
    rcases tag_cases i t.1 j t.2.1 with ⟨h0, hx, hy⟩ | ⟨h0, h101⟩
    · rw [if_neg (show ¬ 0 < tagOf i t.1 j t.2.1 by omega), List.nil_append]
      exact rest
    · rw [if_pos (show 0 < tagOf i t.1 j t.2.1 by omega), List.singleton_append]
      exact .inl ⟨h101, rest⟩
theorem edits_matched {L : ByteArray → List Nat} (hL : ∀ v j, j ∈ L v → b[j]? = some v) : Mt (edits (gmb a b L)) (gmb a b L) := edits_mt _ 0 0 false (gmb_chn hL)
end Go.Proofs.Ytkbppaddghfgpaa
