/- acceptLines: two lines. -/
import Derived.Test.YtkbppaddghfgpaaAcc8
import Derived.StillTailTactics
set_option linter.unusedVariables false
set_option linter.unusedSimpArgs false
namespace Go.Proofs.Ytkbppaddghfgpaa
open Go.RowKit

theorem RdP.take {α : Type} {f g : α → Value} {w : World} {a : Option Addr} {n cap : Nat} {xs : List α} (h : RdP f g w (.slice a n cap) xs) (k : Nat) (hk : k ≤ xs.length) : RdP f g w (.slice a k cap) (xs.take k) := by
  obtain ⟨a', cap', b, off, h1, h2, h3, h4, h5⟩ := h
  cases h1
  have hl : (xs.take k).length = k := by rw [List.length_take]; omega
  refine ⟨a, cap, b, off, by rw [hl], by omega, h3, ?_, fun i x hx => h5 i x ?_⟩
  · rcases h4 with h | h
    · left; rw [h]; simp
    · exact .inr h
  · have : i < k := by have := (List.getElem?_eq_some_iff.1 hx).1; omega
    rwa [List.getElem?_take_of_lt this] at hx
theorem RdP.drop {α : Type} {f g : α → Value} {w : World} {b off n cap : Nat} {xs : List α} (h : RdP f g w (.slice (some ⟨b, off, none⟩) n cap) xs) (k : Nat) (hk : k ≤ xs.length) : RdP f g w (.slice (some ⟨b, off + k * 2, none⟩) (n - k) (cap - k)) (xs.drop k) := by
  obtain ⟨a', cap', b', off', h1, h2, h3, h4, h5⟩ := h
  cases h1
  refine ⟨_, cap - k, b, off + k * 2, by rw [List.length_drop], by rw [List.length_drop]; omega, by omega, .inr rfl, fun i x hx => ?_⟩
  rw [List.getElem?_drop] at hx
  rcases h4 with h | h
  · rw [h] at hx; simp at hx
  · cases h
    have := h5 (k + i) x hx
    rw [show off + k * 2 + i * 2 = off + (k + i) * 2 by omega]
    exact this
theorem RdP.none {α : Type} {f g : α → Value} {w : World} {a : Option Addr} {cap : Nat} (h : cap ≤ maxLen) : RdP f g w (.slice a 0 cap) [] := ⟨a, cap, 0, 0, rfl, Nat.zero_le _, h, .inl rfl, by simp⟩

def gapOf (bl : Bool) : List UInt8 := if bl then [32] else []
def LinesSaid (xs : List Ent) (bl : Bool) (w' : World) (e : Ending) : Prop := ∃ (v' : Value) (k : Nat), e = .returned v' ∧ RdC Value.string w' v' [⟨(lineL (gapOf bl) (xs.take k)).toArray⟩, ⟨(lineL (gapOf bl) (xs.drop k)).toArray⟩]
theorem two_lines {w : World} {g : Nat} {x y : ByteArray} (h0 : w.cell? ⟨g, 0, none⟩ = some (.string x)) (h1 : w.cell? ⟨g, 1, none⟩ = some (.string y)) : RdC Value.string w (.slice (some ⟨g, 0, none⟩) 2 2) [x, y] := by
  refine ⟨_, 2, g, 0, rfl, Nat.le_refl _, by unfold maxLen; omega, .inr rfl, fun i z hz => ?_⟩
  match i, hz with
  | 0, hz => simp at hz; subst hz; exact h0
  | 1, hz => simp at hz; subst hz; exact h1
theorem below_drew (w : World) : Below w.heap.size w w.drew := ⟨rfl, rfl, rfl, Nat.le_refl _, fun _ _ => rfl⟩

set_option maxHeartbeats 1600000 in
set_option maxRecDepth 100000 in
theorem accLines (v : Value) (xs : List Ent) (c : Int) (bl : Bool) (w : World) (hv : RdE w v xs) (hl : xs.length ≤ 2147483647) (h0 : 0 ≤ c) (h255 : c ≤ 255) (hok : ∀ x ∈ xs, EntOk x) (hsz : ∀ x ∈ xs, Small x) :
    Calls Try.prog 13 #[v, .int .u8 c, .bool bl] w fun e w' => LinesSaid xs bl w' e ∧ Below w.heap.size w w' := by
  have HSZ := Lib.hid hsz
  have HOK := Lib.hid hok
  clear hsz hok
  have HV := Lib.hid hv
  obtain ⟨a, cap, b, off, rfl, hcap, hmx, ha, hc⟩ := hv
  clear hc
  have HMX := Lib.hid hmx
  unfold maxLen at hmx
  obtain ⟨k, hk, hkl⟩ : ∃ k : Nat, c % ((xs.length : Int) + 1) = (k : Int) ∧ k ≤ xs.length := by
    have h1 := Int.emod_nonneg c (b := (xs.length : Int) + 1) (by omega)
    have h2 := Int.emod_lt_of_pos c (b := (xs.length : Int) + 1) (by omega)
    exact ⟨(c % ((xs.length : Int) + 1)).toNat, by omega, by omega⟩
  have HK := Lib.hid hk
  clear hk
  have HT := Lib.hid ((HV.out.take k hkl).below (below_drew w))
  have hkc : k ≤ cap := by omega
  have HOT : Hid ((∀ x ∈ xs.take k, EntOk x) ∧ ∀ x ∈ xs.take k, Small x) := Lib.hid ⟨fun x hx => HOK.out x (List.mem_of_mem_take hx), fun x hx => HSZ.out x (List.mem_of_mem_take hx)⟩
  have HOD : Hid ((∀ x ∈ xs.drop k, EntOk x) ∧ ∀ x ∈ xs.drop k, Small x) := Lib.hid ⟨fun x hx => HOK.out x (List.mem_of_mem_drop hx), fun x hx => HSZ.out x (List.mem_of_mem_drop hx)⟩
  have HLT : Hid ((xs.take k).length ≤ 2147483647 ∧ (xs.drop k).length ≤ 2147483647) := Lib.hid ⟨by rw [List.length_take]; omega, by rw [List.length_drop]; omega⟩
  have HDR : Hid (RdE w (.slice (if cap = k then a else a.map (·.add (k * 2))) (xs.length - k) (cap - k)) (xs.drop k)) := Lib.hid (by
    by_cases hck : cap = k
    · rw [if_pos hck]
      have e1 : xs.length - k = 0 := by omega
      have e2 : xs.drop k = [] := List.drop_eq_nil_of_le (by omega)
      rw [e1, e2]
      exact RdP.none (by have := HMX.out; omega)
    · rw [if_neg hck]
      rcases ha with h | h
      · subst h
        have e1 : k = 0 := by simpa using hkl
        subst e1
        exact RdP.none (by have := HMX.out; omega)
      · subst h
        have e : Option.map (fun x : Addr => x.add (k * 2)) (some ⟨b, off, none⟩) = some ⟨b, off + k * 2, none⟩ := by simp [Addr.add]
        rw [e]
        exact HV.out.drop k hkl)
  generalize hdv : (if cap = k then a else a.map (·.add (k * 2))) = av at HDR
  have HDV := Lib.hid hdv
  have HDR2 := Lib.hid (RdP.below HDR.out (below_drew w))
  clear hdv ha
  cases bl
  all_goals
    go_enter Try.func13, Try.ntmps13
    go_wp2_with fail
    rw [HK.out]
    refine wp_region_still_tail 10 (by kernel_rfl) (by kernel_rfl) ?_
    simp only [List.take_succ_cons, List.take_zero, List.drop_succ_cons, List.drop_zero]
    repeat still_step
    still_call (accLine _ (xs.take k) _ _ HT.out HLT.out.1 (by decide) HOT.out.1 HOT.out.2)
    repeat still_step
    rw [HDV.out]
    still_call (accLine _ (xs.drop k) _ _ HDR2.out HLT.out.2 (by decide) HOD.out.1 HOD.out.2)
    repeat still_step
    refine wpStill_nil ?_
    have hbd := below_drew w
    change wpList _ _ _ _ _ w.drew
    clear HDR2 HT HDR HV
    generalize w.drew = w2 at *
    go_wp2_with fail
    go_ret
    exact ⟨⟨_, k, rfl, two_lines (cell_two_new _ _ _ _ 0 _ rfl) (cell_two_new _ _ _ _ 1 _ rfl)⟩, hbd.alloc hbd.size _⟩
end Go.Proofs.Ytkbppaddghfgpaa
