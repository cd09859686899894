/- The reference's look at a descriptor: descTwice, DescBad. -/
import Derived.Test.YtojlpfakdodnfaaGreatDoorFtp
import Derived.Test.YtojlpfakdodnfaaGreatDoorNew2
set_option linter.unusedVariables false
set_option linter.unusedSimpArgs false
namespace Go.Proofs.YtojlpfakdodnfaaGreatDoor
open Go.RowKit

theorem info_st : (Tryz.prog.info? 9).map (fun i => (i.zero, i.size, i.bytes)) = some (some (.string ⟨#[]⟩), 1, 16) := by kernel_rfl
set_option maxRecDepth 100000 in
/-- append(row, texts...), whatever the texts. -/
theorem ap_strs {ops : Array Oper} {rest : List Oper} {o : Oper} {a : Act} {Q : Exit → Act → World → Prop} {w : World} (hgd : o.guard = none) (s x : Operand)
    (ho : o.op = .call { callee := .builtin .append, args := #[s, x], argTypes := #[22, 22] })
    {B n : Nat} {v vv : Value} {xs : List Value} {vars : List ByteArray} (hs : a.eval s = v) (hx : a.eval x = vv) (hown : w.ownsRow B 9 1 v n xs) (hv : RdC Value.string w vv vars) (hn : n + vars.length ≤ 16777216) (hB : B ≤ w.heap.size)
    (hK : ∀ v' w', w'.ownsRow B 9 1 v' (n + vars.length) (xs ++ vars.map Value.string) → w.grownBy w' v.ownBlock → wpList Tryz.prog ops Q rest (a.put o.dst v') w') : wpList Tryz.prog ops Q (o :: rest) a w := by
  obtain ⟨z0, hzi, hzz, hzs, hzb⟩ := info_parts info_st
  obtain ⟨p, cap, b, off, rfl, hcap, hmx, hp, hc⟩ := hv
  by_cases h0 : vars = []
  · subst h0
    obtain ⟨a1, c1, rfl, hc1⟩ := own_shapeL hown
    refine wpList_plain hgd fun K hK' => ?_
    have hrun := run_append0 (P := Tryz.prog) (w := w) 22 o.type 9 z0 Tryz.underlying22 hzi a1 n c1 p cap hc1
    unfold Oper.wp
    simp only [execOp, ho, resolve, invoke, builtin, Sem.run_bind, Sem.run_pure, Result.andThen_ok, List.map_toArray, List.map_cons, List.map_nil, hs, hx, List.length_nil, hrun]
    exact hK' _ _ (hK _ _ (by simpa using hown) ⟨rfl, rfl, rfl, Nat.le_refl _, fun _ _ _ => rfl⟩)
  · have hp2 : p = some ⟨b, off, none⟩ := hp.resolve_left h0
    subst hp2
    exact wpList_append_own_at w hgd s x 22 ho B 9 z0 (.string ⟨#[]⟩) 1 16 Tryz.underlying22 hzi hzz hzs hzb rfl (by decide) v n xs hs hown ⟨b, off, none⟩ vars.length cap (vars.map Value.string) hx (by simp)
      (fun j u hj => by
        rw [List.getElem?_map] at hj
        cases hy : vars[j]? with
        | none => rw [hy] at hj; cases hj
        | some y =>
          rw [hy] at hj
          injection hj with hj
          subst hj
          have e : (⟨b, off, none⟩ : Addr).add j = ⟨b, off + j, none⟩ := by unfold Addr.add; split <;> simp_all
          rw [e]
          exact hc j y hy)
      (fun u hu => by obtain ⟨y, _, rfl⟩ := List.mem_map.1 hu; rfl) (by unfold maxLen; omega) (by omega) hB (fun v' w' h1 h2 _ _ => hK v' w' h1 h2)
theorem rdC_take {w : World} {B e g n cap : Nat} {xs : List ByteArray} (h : w.ownsRow B e 1 (.slice (some ⟨g, 0, none⟩) n cap) n (xs.map Value.string)) (k : Nat) (hk : k ≤ n) : RdC Value.string w (.slice (some ⟨g, 0, none⟩) k cap) (xs.take k) := by
  have h1 := own_take h k hk
  rw [Nat.mul_one, ← List.map_take] at h1
  exact RdC.of_owns h1
/-- A bool whose truth says something. -/
def BoolIf (p : Prop) (e : Ending) : Prop := ∃ b, e = .returned (.bool b) ∧ (b = true → p)
def SaidB (p : Prop) (w w' : World) (e : Ending) : Prop := BoolIf p e ∧ Below w.heap.size w w'
end Go.Proofs.YtojlpfakdodnfaaGreatDoor
