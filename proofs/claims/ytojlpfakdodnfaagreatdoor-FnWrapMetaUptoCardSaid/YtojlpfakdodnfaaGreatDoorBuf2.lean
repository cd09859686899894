/- append of a string, and of the separator, to a row of bytes of the call's own. -/
import Derived.Test.YtojlpfakdodnfaaGreatDoorBuf
set_option linter.unusedVariables false
set_option linter.unusedSimpArgs false
namespace Go.Proofs.YtojlpfakdodnfaaGreatDoor
open Go.RowKit Go.Maps

theorem br_grown {B : Nat} {w x : World} {v : Value} {l : List UInt8} (h : BR B w v l) (hg : w.grownBy x v.ownBlock) (hB : B ≤ w.heap.size) : Below B w x :=
  (Below.refl B w).grown hg hB (fun q hq => (row_from h q hq).1)
set_option maxRecDepth 100000 in
theorem br_str {ops : Array Oper} {rest : List Oper} {o : Oper} {a : Act} {Q : Exit → Act → World → Prop} {w : World} (hgd : o.guard = none) (sl x : Operand)
    (ho : o.op = .call { callee := .builtin .append, args := #[sl, x], argTypes := #[96, 9] })
    {B : Nat} {v : Value} {l : List UInt8} {s : ByteArray} (hs : a.eval sl = v) (hx : a.eval x = .string s) (h : BR B w v l) (hsz : l.length + s.size ≤ 140737488355328) (hB : B ≤ w.heap.size)
    (hK : ∀ v' w', BR B w' v' (l ++ bs s) → Below B w w' → wpList Tryz.prog ops Q rest (a.put o.dst v') w') : wpList Tryz.prog ops Q (o :: rest) a w := by
  obtain ⟨i0, hi, hz0, hz1, hz2⟩ := info_parts info_u8n
  exact Lib.wpList_append_own_string w hgd sl x 96 9 ho B 5 i0 Tryz.underlying96 Tryz.underlying9 hi hz0 hz1 hz2 v _ _ hs h s hx (by unfold maxLen; omega) hsz hB
    fun v' w' h1 h2 _ => hK v' w' (BR.str h1) (br_grown h h2 hB)
set_option maxRecDepth 100000 in
theorem br_sep {ops : Array Oper} {rest : List Oper} {o : Oper} {a : Act} {Q : Exit → Act → World → Prop} {w : World} (hgd : o.guard = none) (sl x : Operand)
    (ho : o.op = .call { callee := .builtin .append, args := #[sl, x], argTypes := #[96, 96] })
    {B : Nat} {v : Value} {l : List UInt8} {b off c : Nat} (hs : a.eval sl = v) (hx : a.eval x = .slice (some ⟨b, off, none⟩) 1 c) (hc : w.cell? ⟨b, off, none⟩ = some (.int .u8 255)) (h : BR B w v l) (hsz : l.length + 1 ≤ 140737488355328) (hB : B ≤ w.heap.size)
    (hK : ∀ v' w', BR B w' v' (l ++ [255]) → Below B w w' → wpList Tryz.prog ops Q rest (a.put o.dst v') w') : wpList Tryz.prog ops Q (o :: rest) a w := by
  obtain ⟨i0, hi, hz0, hz1, hz2⟩ := info_parts info_u8n
  exact wpList_append_own_at w hgd sl x 96 ho B 5 i0 (.int .u8 0) 1 1 Tryz.underlying96 hi hz0 hz1 hz2 rfl (by decide) v _ _ hs h ⟨b, off, none⟩ 1 c [.int .u8 255] hx rfl
    (fun j u hj => by
      match j, hj with
      | 0, hj => simp at hj; subst hj; simpa [Addr.add] using hc
      | j + 1, hj => simp at hj)
    (by simp [Value.oneCell']) (by unfold maxLen; omega) (by omega) hB
    fun v' w' h1 h2 _ _ => hK v' w' (BR.sep h1) (br_grown h h2 hB)
theorem BR.mono {B C : Nat} {w : World} {v : Value} {l : List UInt8} (h : BR B w v l) (hC : C ≤ B) : BR C w v l := row_mono h hC
theorem BR.new (w : World) : BR w.heap.size (w.alloc (.cells #[] 5)) (.slice (some ⟨w.heap.size, 0, none⟩) 0 0) [] := ⟨rfl, .inr ⟨w.heap.size, 0, #[], rfl, Nat.le_refl _, heap_alloc_new _ _, Nat.le_refl _, Nat.zero_le _, rfl, rfl⟩⟩
theorem sepT_snoc (xs : List (List UInt8)) (x : List UInt8) : sepT (xs ++ [x]) = sepT xs ++ x ++ [255] := by
  unfold sepT
  simp
theorem sepT_len {n : Nat} : ∀ xs : List (List UInt8), (∀ x ∈ xs, x.length ≤ n) → (sepT xs).length ≤ xs.length * (n + 1)
  | [], _ => Nat.zero_le _
  | x :: xs, h => by
    have h1 := sepT_len xs fun y hy => h y (List.mem_cons_of_mem _ hy)
    have h2 := h x (List.mem_cons_self ..)
    have e : sepT (x :: xs) = x ++ [255] ++ sepT xs := by unfold sepT; simp
    rw [e, List.length_append, List.length_append]
    rw [show (x :: xs).length = xs.length + 1 from rfl, Nat.add_mul]
    simp only [List.length_singleton]
    omega
end Go.Proofs.YtojlpfakdodnfaaGreatDoor
