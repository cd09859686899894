/- findLongestMatch, made ready: the maps of lengths; what a matcher's memory is. -/
import Derived.Test.YtkbppaddghfgpaaDoorDif5
import Derived.Deep.Quiet
import Derived.Lib.Strings
set_option linter.unusedVariables false
set_option linter.unusedSimpArgs false
namespace Go.Proofs.YtkbppaddghfgpaaDoor
open Go.RowKit Go.Maps

theorem lawI : Keyed Tryd.prog 3 := int_keyed Tryd.underlying3
theorem zeroInt (w : World) : (zeroValue 3).run Tryd.prog w = .ok (.int .i64 0) w := by kernel_rfl
/-- The map in block B holds the lengths m. -/
def JL (w : World) (B n : Nat) (m : Nat → Nat) : Prop :=
  ∃ D : DataW Unit, w.ownsMap Tryd.prog 3 (plainElem Tryd.prog 3) B n D ∧ ∀ t : Nat, D.atKey (.int .i64 ((t : Int) - 1)) (.lit (.int .i64 0)) = .lit (.int .i64 (m t : Int))
theorem JL.made (w : World) : JL (w.alloc (.map #[] 0)) w.heap.size 0 (fun _ => 0) := ⟨_, World.ownsMap_made w _ _ _, fun t => rfl⟩
theorem JL.grown {w w' : World} {B n : Nat} {m : Nat → Nat} {row : Option Nat} (h : JL w B n m) (hg : w.grownBy w' row) (hne : some B ≠ row) : JL w' B n m := by
  obtain ⟨D, h1, h2⟩ := h
  exact ⟨D, h1.kept hg hne, h2⟩
theorem JL.drewN {w : World} {B n : Nat} {m : Nat → Nat} (h : JL w B n m) (k : Nat) : JL (w.drewN k) B n m := h
theorem JL.mono {w : World} {B n n' : Nat} {m : Nat → Nat} (h : JL w B n m) (hn : n ≤ n') : JL w B n' m := by
  obtain ⟨D, h1, h2⟩ := h
  exact ⟨D, h1.mono hn, h2⟩
theorem JL.lt {w : World} {B n : Nat} {m : Nat → Nat} (h : JL w B n m) : B < w.heap.size := by
  obtain ⟨D, h1, _⟩ := h
  exact h1.lt
theorem JL.look {w : World} {B n : Nat} {m : Nat → Nat} (h : JL w B n m) (j : Nat) (hj : j ≤ 2147483648) : (Instr.lookup 83 (.map (some B)) (.int .i64 ((j : Int) - 1)) false).run Tryd.prog w = .ok (.int .i64 (m j : Int)) w := by
  obtain ⟨D, h1, h2⟩ := h
  obtain ⟨c, hrun, hat, _⟩ := h1.lookup_int lawI Tryd.underlying83 Tryd.underlying3 (zeroInt w) (key := .int .i64 ((j : Int) - 1)) (kl := .int .i64 ((j : Int) - 1)) (Maps.keyOf_int_mk Tryd.underlying3 (WalkArith.wf_i64 (by omega)))
  rw [h2 j] at hat
  rw [hrun, (Lit.int.inj (DataW.lit.inj hat)).2]
theorem JL.put {w : World} {B n : Nat} {m : Nat → Nat} (h : JL w B n m) (j k : Nat) (hj : j ≤ 2147483648) (hk : k ≤ 2147483648) (hn : n < maxLen) :
    ∃ w', (Instr.mapUpdate 83 (.map (some B)) (.int .i64 (j : Int)) (.int .i64 (k : Int))).run Tryd.prog w = .ok () w' ∧ JL w' B (n + 1) (upd m (j + 1) k) ∧ w.grownBy w' (some B) := by
  obtain ⟨D, h1, h2⟩ := h
  obtain ⟨w', hrun, h3, h4⟩ := h1.update lawI Tryd.underlying83 hn (key := .int .i64 (j : Int)) (kl := .int .i64 (j : Int)) (Maps.keyOf_int_mk Tryd.underlying3 (WalkArith.wf_i64 (by omega))) (plainElem_int Tryd.underlying3 (a := (k : Int)) (WalkArith.wf_i64 (by omega)))
  refine ⟨w', hrun, ⟨_, h3, fun t => ?_⟩, h4⟩
  unfold upd
  by_cases ht : t = j + 1
  · rw [if_pos ht, ht, show (((j + 1 : Nat) : Int) - 1) = (j : Int) by omega, atKey_put_same h1.isMap (by trivial)]
  · rw [if_neg ht, atKey_put_other (fun he => by injection he with _ he; omega)]
    exact h2 t

/-- What the matcher at M reads as. -/
def Mem (w : World) (M : Nat) (a b : List ByteArray) (L : ByteArray → List Nat) : Prop :=
  ∃ av bv jv ju bl pv op, Mat w M av bv jv (.map (some ju)) bl pv op ∧ Looks w jv L ∧ w.heap[ju]? = some (.map #[] 0) ∧ RdC Value.string w av a ∧ RdC Value.string w bv b
theorem Mem.below {w w' : World} {M : Nat} {a b : List ByteArray} {L : ByteArray → List Nat} (h : Mem w M a b L) (hb : Below w.heap.size w w') : Mem w' M a b L := by
  obtain ⟨av, bv, jv, ju, bl, pv, op, h1, h2, h3, h4, h5⟩ := h
  exact ⟨av, bv, jv, ju, bl, pv, op, h1.below hb h1.lt, h2.below hb, (hb.block ju (Array.getElem?_eq_some_iff.1 h3).1).trans h3, h4.below hb, h5.below hb⟩

theorem take_stop {c : Nat} : ∀ {js : List Nat} {t : Nat}, (∀ j ∈ js.take t, j < c) → (js.length ≤ t ∨ ∃ j, js[t]? = some j ∧ c ≤ j) → (js.takeWhile fun j => decide (j < c)) = js.take t
  | [], t, _, _ => by simp
  | j :: js, 0, _, h => by
    rcases h with h | ⟨j', h, hc⟩
    · simp at h
    · simp at h
      subst h
      rw [List.takeWhile_cons, if_neg (by simp; omega)]
      rfl
  | j :: js, t + 1, hj, h => by
    have h0 := hj j (by simp)
    rw [List.takeWhile_cons, if_pos (by simpa using h0), List.take_succ_cons, take_stop (t := t) (fun j' h' => hj j' (by simp [h'])) (by simpa using h)]
theorem inFold_snoc (x blo : Nat) (old : Nat → Nat) (js : List Nat) (j : Nat) (s : FS) : inFold x blo old (js ++ [j]) s = inStep x blo old (inFold x blo old js s) j := by simp [inFold]
theorem old_le {α : Type} [DecidableEq α] {a b : List α} {alo blo bhi i : Nat} {s : FS} (h : Sound a b alo blo bhi i s) (t : Nat) : s.m t ≤ t ∧ s.m t ≤ i := by
  rcases Nat.eq_zero_or_pos (s.m t) with h0 | h0
  · omega
  · have h1 := h.ms t h0
    have h2 := rl_le a b alo blo i (t - blo)
    omega
theorem inStep_skip {x blo : Nat} {old : Nat → Nat} {s : FS} {j : Nat} (h : j < blo) : inStep x blo old s j = s := by unfold inStep; rw [if_pos h]
theorem inStep_more {x blo : Nat} {old : Nat → Nat} {s : FS} {j : Nat} (h : ¬ j < blo) (h2 : s.n < old j + 1) : inStep x blo old s j = ⟨x - old j, j - old j, old j + 1, upd s.m (j + 1) (old j + 1)⟩ := by unfold inStep; rw [if_neg h, if_pos h2]
theorem inStep_less {x blo : Nat} {old : Nat → Nat} {s : FS} {j : Nat} (h : ¬ j < blo) (h2 : ¬ s.n < old j + 1) : inStep x blo old s j = ⟨s.i, s.j, s.n, upd s.m (j + 1) (old j + 1)⟩ := by unfold inStep; rw [if_neg h, if_neg h2]

theorem ne_bytes {r s : ByteArray} (h : ¬ r = s) : (r.toList == s.toList) = false := by
  cases hb : (r.toList == s.toList)
  · rfl
  · refine absurd (WideShapes.bytes_inj ?_) h
    have h1 := eq_of_beq hb
    rw [Lib.toList_data, Lib.toList_data] at h1
    exact h1
theorem backF_yes {α : Type} [DecidableEq α] {a b : List α} {alo blo f i j n : Nat} (h1 : alo < i) (h2 : blo < j) (h3 : a[i - 1]? = b[j - 1]?) (hf : i ≤ f) : backF a b alo blo f i j n = backF a b alo blo (f - 1) (i - 1) (j - 1) (n + 1) := by
  match f with
  | 0 => omega
  | f + 1 =>
    conv => lhs; unfold backF
    rw [if_pos ⟨h1, h2, h3⟩]
    rfl
theorem backF_no {α : Type} [DecidableEq α] {a b : List α} {alo blo f i j n : Nat} (h : ¬ (alo < i ∧ blo < j ∧ a[i - 1]? = b[j - 1]?)) : backF a b alo blo f i j n = (i, j, n) := by
  match f with
  | 0 => rfl
  | f + 1 => unfold backF; rw [if_neg h]
theorem foreF_yes {α : Type} [DecidableEq α] {a b : List α} {ahi bhi i j f n : Nat} (h1 : i + n < ahi) (h2 : j + n < bhi) (h3 : a[i + n]? = b[j + n]?) (hf : ahi ≤ f + n) : foreF a b ahi bhi i j f n = foreF a b ahi bhi i j (f - 1) (n + 1) := by
  match f with
  | 0 => omega
  | f + 1 =>
    conv => lhs; unfold foreF
    rw [if_pos ⟨h1, h2, h3⟩]
    rfl
theorem foreF_no {α : Type} [DecidableEq α] {a b : List α} {ahi bhi i j f n : Nat} (h : ¬ (i + n < ahi ∧ j + n < bhi ∧ a[i + n]? = b[j + n]?)) : foreF a b ahi bhi i j f n = n := by
  match f with
  | 0 => rfl
  | f + 1 => unfold foreF; rw [if_neg h]
theorem Blk.back {α : Type} {a b : List α} {alo ahi blo bhi i j n : Nat} (h : Blk a b alo ahi blo bhi i j n) (h1 : alo < i) (h2 : blo < j) (h3 : a[i - 1]? = b[j - 1]?) : Blk a b alo ahi blo bhi (i - 1) (j - 1) (n + 1) := by
  obtain ⟨g1, g2, g3, g4, g5⟩ := h
  refine ⟨by omega, by omega, by omega, by omega, fun t ht => ?_⟩
  match t with
  | 0 => exact h3
  | t + 1 =>
    have := g5 t (by omega)
    rw [show i - 1 + (t + 1) = i + t by omega, show j - 1 + (t + 1) = j + t by omega]
    exact this
theorem Blk.fore {α : Type} {a b : List α} {alo ahi blo bhi i j n : Nat} (h : Blk a b alo ahi blo bhi i j n) (h1 : i + n < ahi) (h2 : j + n < bhi) (h3 : a[i + n]? = b[j + n]?) : Blk a b alo ahi blo bhi i j (n + 1) := by
  obtain ⟨g1, g2, g3, g4, g5⟩ := h
  refine ⟨by omega, by omega, by omega, by omega, fun t ht => ?_⟩
  rcases Nat.lt_or_ge t n with h6 | h6
  · exact g5 t h6
  · obtain rfl : t = n := by omega
    exact h3
/-- A world that lies beyond w0. -/
structure Ext (w0 : World) where
  val : World
  beyond : Below w0.heap.size w0 val
/-- A region that draws its order and whose operations read, or call what only makes memory: one walk, over all worlds beyond w0. -/
theorem wp_region_ext {P : Program} {id : Nat} {Q : Exit → Act → World → Prop} {a : Act} {w w0 : World} {l : List Oper} (hb : Below w0.heap.size w0 w) (hm : P.follows .mixedOrders = true) (hB : Region.lexB .any l.toArray = true)
    (h : wpQuiet P l.toArray (fun w' => ∃ x : Ext w0, w' = x.val) (fun a' => ∀ w', (∃ x : Ext w0, w' = x.val) → Q .normal a' w') l a) : (Code.region id l.toArray true).wp P Q a w :=
  wp_region_quiet (C := fun w' => ∃ x : Ext w0, w' = x.val) hm hB ⟨⟨w.drew, hb.drew⟩, rfl⟩ (by simpa using h)
end Go.Proofs.YtkbppaddghfgpaaDoor
