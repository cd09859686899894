/- The matching blocks are no longer than what the lists have in common. -/
import Derived.Test.YtkbppaddghfgpaaDifE
import Derived.Test.YtkbppaddghfgpaaCom
set_option linter.unusedVariables false
set_option linter.unusedSimpArgs false
namespace Go.Proofs.Ytkbppaddghfgpaa

def szs : List Tri → Nat
  | [] => 0
  | t :: r => t.2.2 + szs r
theorem szs_app : ∀ (l1 l2 : List Tri), szs (l1 ++ l2) = szs l1 + szs l2
  | [], l2 => by simp [szs]
  | t :: r, l2 => by
    show t.2.2 + szs (r ++ l2) = t.2.2 + szs r + szs l2
    rw [szs_app r l2]
    omega
theorem szs_take (ms : List Tri) (t : Nat) (h : t < ms.length) : szs (ms.take (t + 1)) = szs (ms.take t) + ms[t].2.2 ∧ szs (ms.take t) + ms[t].2.2 ≤ szs ms := by
  have e : szs (ms.take (t + 1)) = szs (ms.take t) + ms[t].2.2 := by
    rw [List.take_succ_eq_append_getElem h, szs_app]
    simp [szs]
  refine ⟨e, ?_⟩
  have := szs_app (ms.take (t + 1)) (ms.drop (t + 1))
  rw [List.take_append_drop] at this
  omega
variable {a b : List ByteArray}
def txt (a : List ByteArray) : List Tri → List ByteArray
  | [] => []
  | t :: r => (a.drop t.1).take t.2.2 ++ txt a r
theorem drop_sub (a : List ByteArray) {i j : Nat} (h : i ≤ j) : (a.drop j).Sublist (a.drop i) := by
  have e : a.drop j = (a.drop i).drop (j - i) := by rw [List.drop_drop, show i + (j - i) = j by omega]
  rw [e]
  exact List.drop_sublist _ _
theorem part_sub (a : List ByteArray) (x k : Nat) {l : List ByteArray} (h : l.Sublist (a.drop (x + k))) : ((a.drop x).take k ++ l).Sublist (a.drop x) := by
  have e : a.drop x = (a.drop x).take k ++ a.drop (x + k) := by rw [← List.drop_drop, List.take_append_drop]
  have := List.Sublist.append (List.Sublist.refl ((a.drop x).take k)) h
  rwa [← e] at this
theorem Eqs.same {x y k : Nat} (h : Eqs a b x y k) : (a.drop x).take k = (b.drop y).take k := by
  apply List.ext_getElem?
  intro t
  rw [List.getElem?_take, List.getElem?_take]
  split
  · rw [List.getElem?_drop, List.getElem?_drop]
    exact h.2.2 t ‹_›
  · rfl
theorem chn_sub : ∀ (ms : List Tri) (i j : Nat) (adj : Bool), Chn a b i j adj ms → (txt a ms).Sublist (a.drop i) ∧ (txt a ms).Sublist (b.drop j) ∧ (txt a ms).length = szs ms
  | [], _, _, _, h => h.elim
  | t :: r, i, j, adj, h => by
    obtain ⟨h1, h2, h3⟩ := h
    rcases h3 with ⟨rfl, rfl⟩ | ⟨hk, he, _, hr⟩
    · have : txt a [(a.length, b.length, 0)] = [] := by simp [txt]
      rw [this]
      exact ⟨List.nil_sublist _, List.nil_sublist _, rfl⟩
    · obtain ⟨s1, s2, s3⟩ := chn_sub r _ _ _ hr
      refine ⟨(part_sub a t.1 t.2.2 s1).trans (drop_sub a h1), ?_, ?_⟩
      · show ((a.drop t.1).take t.2.2 ++ txt a r).Sublist _
        rw [he.same]
        exact (part_sub b t.2.1 t.2.2 s2).trans (drop_sub b h2)
      · show ((a.drop t.1).take t.2.2 ++ txt a r).length = t.2.2 + szs r
        have := he.1
        rw [List.length_append, List.length_take, List.length_drop, s3]
        omega
/-- What matches is in common. -/
theorem matched_le {L : ByteArray → List Nat} (hL : ∀ v j, j ∈ L v → b[j]? = some v) : szs (gmb a b L) ≤ comm a b := by
  obtain ⟨s1, s2, s3⟩ := chn_sub _ _ _ _ (gmb_chn (a := a) hL)
  rw [← s3]
  rw [List.drop_zero] at s1 s2
  exact comm_ge a b _ s1 (fun x => @List.Sublist.count_le _ instBEqOfDecidableEq _ _ x s2)
end Go.Proofs.Ytkbppaddghfgpaa
