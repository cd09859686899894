/- Plain laws for the header's parser; a map of one entry. -/
import Derived.Test.YtkbppaddghfgpaaAcc9
import Derived.Carry
import Derived.Maps.Keyed
import Derived.MapKept
set_option linter.unusedVariables false
set_option linter.unusedSimpArgs false
namespace Go.Proofs.Ytkbppaddghfgpaa
open Go.RowKit

def tailL (g : List UInt8) : List Ent → List UInt8
  | [] => []
  | y :: r => 44 :: g ++ lineL g (y :: r)
theorem line_cons (g : List UInt8) (x : Ent) (r : List Ent) : lineL g (x :: r) = ent x ++ tailL g r := by
  cases r with
  | nil => simp [lineL, tailL]
  | cons y r => rfl
theorem tail_ends (g : List UInt8) (r : List Ent) : Ends (tailL g r) := by
  cases r with
  | nil => exact .inl rfl
  | cons y r => exact .inr rfl
theorem tw_app {α : Type} (p : α → Bool) (a b : List α) (h : ∀ x ∈ a, p x = true) : (a ++ b).takeWhile p = a ++ b.takeWhile p ∧ (a ++ b).dropWhile p = b.dropWhile p := by
  induction a with
  | nil => exact ⟨rfl, rfl⟩
  | cons x r ih =>
    have hx := h x (by simp)
    obtain ⟨i1, i2⟩ := ih (fun y hy => h y (by simp [hy]))
    simp [hx, i1, i2]
theorem tw_stop {α : Type} (p : α → Bool) (b : List α) (h : ∀ c, b.head? = some c → p c = false) : b.takeWhile p = [] ∧ b.dropWhile p = b := by
  cases b with
  | nil => exact ⟨rfl, rfl⟩
  | cons x r => have := h x rfl; simp [this]
theorem tok59 : tokU 59 = false := by decide +kernel
theorem tok44 : tokU 44 = false := by decide +kernel
theorem spc59 : spcU 59 = false := by decide +kernel
theorem spc44 : spcU 44 = false := by decide +kernel
theorem spc113 : spcU 113 = false := by decide +kernel
theorem spc32 : spcU 32 = true := by decide +kernel
theorem tok_spc_all : ∀ n, n < 256 → (tokB ((n : Nat) : Int) || n == 47) = true → hasB spcS.data.toList ((n : Nat) : Int) = false := by decide +kernel
theorem tok_spc {c : UInt8} (h : tokU c = true) : spcU c = false := by
  refine tok_spc_all c.toNat c.toNat_lt ?_
  unfold tokU at h
  rw [Bool.or_eq_true] at h ⊢
  refine h.imp id fun h => ?_
  rw [beq_iff_eq] at h ⊢
  rw [h]; rfl
theorem ends_head {p : UInt8 → Bool} {tl : List UInt8} (h : Ends tl) (h44 : p 44 = false) : ∀ c, tl.head? = some c → p c = false := by
  intro c hc
  rcases h with h | h
  · rw [h] at hc; cases hc
  · rw [h] at hc; cases hc; exact h44
/-- What is behind an entry's token. -/
def digL (x : Ent) : List UInt8 := if x.2.size = 0 then [] else [59, 113, 61] ++ x.2.data.toList
theorem ent_split {x : Ent} (h : TokE x.1) {tl : List UInt8} (ht : Ends tl) : (ent x ++ tl).takeWhile tokU = x.1.data.toList ∧ (ent x ++ tl).dropWhile tokU = digL x ++ tl := by
  have e : ent x ++ tl = x.1.data.toList ++ (digL x ++ tl) := by unfold ent digL; rw [List.append_assoc]
  obtain ⟨h1, h2⟩ := tw_app tokU x.1.data.toList (digL x ++ tl) h.2
  have h3 := tw_stop tokU (digL x ++ tl) (by
    unfold digL
    split
    · rw [List.nil_append]; exact ends_head ht tok44
    · intro c hc; cases hc; exact tok59)
  rw [e, h1, h2, h3.1, h3.2, List.append_nil]
  exact ⟨rfl, rfl⟩
theorem skip_dig (x : Ent) {tl : List UInt8} (ht : Ends tl) : (digL x ++ tl).dropWhile spcU = digL x ++ tl := by
  refine (tw_stop spcU _ ?_).2
  unfold digL
  split
  · rw [List.nil_append]; exact ends_head ht spc44
  · intro c hc; cases hc; exact spc59
theorem skip_q (l : List UInt8) : (113 :: l).dropWhile spcU = 113 :: l := (tw_stop spcU _ (fun c hc => by cases hc; exact spc113)).2
theorem skip_tail {tl : List UInt8} (ht : Ends tl) : tl.dropWhile spcU = tl := (tw_stop spcU _ (ends_head ht spc44)).2
theorem skip_gap {g : List UInt8} (hg : g = [] ∨ g = [32]) {y : Ent} (hy : TokE y.1) (r : List Ent) : (g ++ lineL g (y :: r)).dropWhile spcU = lineL g (y :: r) := by
  have hs : ∀ c, (lineL g (y :: r)).head? = some c → spcU c = false := by
    intro c hc
    rw [line_cons] at hc
    refine tok_spc (hy.2 c ?_)
    obtain ⟨z, zs, hz⟩ := List.exists_cons_of_ne_nil hy.1
    unfold ent at hc
    rw [hz] at hc ⊢
    cases hc
    exact .head _
  have h1 : ∀ x ∈ g, spcU x = true := by
    rcases hg with h | h <;> rw [h] <;> intro x hx
    · cases hx
    · simp only [List.mem_singleton] at hx; rw [hx]; exact spc32
  rw [(tw_app spcU g _ h1).2]
  exact (tw_stop spcU _ hs).2

section
variable {P : Program}
theorem map_ins1 {t k e : TypeId} (ht : P.underlying t = some (.map k e)) (hk : P.underlying k = some .string) (w : World) (b : Nat) (key : ByteArray) (hks : key.size ≤ maxLen) (v : Value) (hb : w.heap[b]? = some (.map #[] 0)) :
    (Instr.mapUpdate t (.map (some b)) (.string key) v).run P w = .ok () { w with heap := w.heap.setIfInBounds b (.map #[⟨.string key, v, 0⟩] 1) } := by
  have K := Maps.string_keyed hk
  obtain ⟨l, hl⟩ : ∃ l, keyOf P k (.string key) = some l := ⟨.string key.data.toList, by simp [keyOf, mapKey, hk, hks]⟩
  rcases K.find w hl [] (by simp) with ⟨h1, _⟩ | ⟨j, e0, _, h2, _⟩
  · simp [Instr.mapUpdate, run_underlying ht, MapKept.run_getObj_map hb, K.check w _ hl, h1, MapKept.run_setObj_map _ hb, Result.andThen]
  · simp at h2
theorem map_look1 {t k e : TypeId} (ht : P.underlying t = some (.map k e)) (hk : P.underlying k = some .string) (w : World) (b : Nat) (key : ByteArray) (hks : key.size ≤ maxLen) (v : Value) (n c : Nat) (hb : w.heap[b]? = some (.map #[⟨.string key, v, n⟩] c)) :
    (Instr.lookup t (.map (some b)) (.string key) false).run P w = .ok v w := by
  have K := Maps.string_keyed hk
  obtain ⟨l, hl⟩ : ∃ l, keyOf P k (.string key) = some l := ⟨.string key.data.toList, by simp [keyOf, mapKey, hk, hks]⟩
  rcases K.find w hl [⟨.string key, v, n⟩] (by intro e0 he; simp at he; subst he; exact ⟨l, hl⟩) with ⟨_, h1⟩ | ⟨j, e0, h1, h2, h3⟩
  · exact absurd rfl (h1 _ (.head _))
  · have hj : e0 = ⟨.string key, v, n⟩ := by
      match j, h2 with
      | 0, h2 => simp at h2; exact h2.symm
    rw [hj] at h1
    simp [Instr.lookup, run_underlying ht, MapKept.run_getObj_map hb, K.check w _ hl, h1, Result.andThen]
end
end Go.Proofs.Ytkbppaddghfgpaa
