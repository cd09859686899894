/- Slices whose elements take one cell each, read as a list: what a slice value reads as, that this stays while memory only grows, and that a row which a call owns reads so. -/
import Derived.Test.YtojlpfakdodnfaaGreatDoorRows
import Derived.Below
import Derived.Laws.AppendOwn
import Derived.Lib.Hide
import Derived.Lib.Builder
import Derived.WalkKit
import Derived.ProofKit
import Derived.OpenShut
import Derived.Deep.Draws
import Derived.Maps.AppendAt
set_option linter.unusedVariables false
set_option linter.unusedSimpArgs false
namespace Go.Proofs.YtojlpfakdodnfaaGreatDoor
open Go.RowKit Go.WideShapes

/-- The slice value v reads, in the world w, as the list xs: each element is one cell, which holds f of it. -/
def RdC {α : Type} (f : α → Value) (w : World) (v : Value) (xs : List α) : Prop :=
  ∃ (a : Option Addr) (cap b off : Nat), v = .slice a xs.length cap ∧ xs.length ≤ cap ∧ cap ≤ maxLen ∧ (xs = [] ∨ a = some ⟨b, off, none⟩) ∧ ∀ i x, xs[i]? = some x → w.cell? ⟨b, off + i, none⟩ = some (f x)

theorem RdC.below {α : Type} {f : α → Value} {w w' : World} {v : Value} {xs : List α} (h : RdC f w v xs) (hb : Below w.heap.size w w') : RdC f w' v xs := by
  obtain ⟨a, cap, b, off, h1, h2, h3, h4, h5⟩ := h
  refine ⟨a, cap, b, off, h1, h2, h3, h4, fun i x hx => ?_⟩
  have := h5 i x hx
  rw [hb.cell (p := ⟨b, off + i, none⟩) (World.block_lt_of_cell? w _ this)]
  exact this

theorem RdC.nil {α : Type} (f : α → Value) (w : World) : RdC f w (.slice none 0 0) [] := ⟨none, 0, 0, 0, rfl, Nat.le_refl _, Nat.zero_le _, .inl rfl, by simp⟩

theorem RdC.of_owns {α : Type} {f : α → Value} {w : World} {base : Nat} {e : TypeId} {v : Value} {n : Nat} {xs : List α} (h : w.ownsRow base e 1 v n (xs.map f)) : RdC f w v xs := by
  obtain ⟨hl, h⟩ := h
  have hn : xs.length = n := by simpa using hl
  rcases h with ⟨rfl, rfl⟩ | ⟨g, cap, cur, rfl, hb, hg, hc, hm, hs, ht⟩
  · obtain rfl := List.eq_nil_of_length_eq_zero hn
    exact RdC.nil f w
  · refine ⟨_, cap, g, 0, by rw [hn], by omega, hm, .inr rfl, fun i x hx => ?_⟩
    rw [Lib.cell_of_heap hg, Nat.zero_add]
    have hi : i < n := by rw [← hn]; exact (List.getElem?_eq_some_iff.1 hx).1
    have h2 : (cur.toList.take (n * 1))[i]? = some (f x) := by rw [ht, List.getElem?_map, hx]; rfl
    rw [List.getElem?_take_of_lt (by omega)] at h2
    rwa [Array.getElem?_toList] at h2

theorem choose_list {α : Type} {Q : Nat → α → Prop} : ∀ n, (∀ i, i < n → ∃ x, Q i x) → ∃ xs : List α, xs.length = n ∧ ∀ i x, xs[i]? = some x → Q i x
  | 0, _ => ⟨[], rfl, by simp⟩
  | n + 1, h => by
    obtain ⟨xs, hl, hx⟩ := choose_list n (fun i hi => h i (by omega))
    obtain ⟨y, hy⟩ := h n (by omega)
    refine ⟨xs ++ [y], by simp [hl], fun i x hi => ?_⟩
    rcases Nat.lt_or_ge i n with h1 | h1
    · rw [List.getElem?_append_left (by omega)] at hi; exact hx i x hi
    · rw [List.getElem?_append_right (by omega), hl] at hi
      have : i - n = 0 := by
        rcases Nat.eq_zero_or_pos (i - n) with h2 | h2
        · exact h2
        · rw [List.getElem?_eq_none (by simp; omega)] at hi; cases hi
      rw [this] at hi
      simp at hi
      obtain rfl : i = n := by omega
      rw [← hi]; exact hy

/-- The same for elements of n cells each: R says what an element's cells read as. -/
def RdG {α : Type} (n : Nat) (R : World → List Value → α → Prop) (w : World) (v : Value) (xs : List α) : Prop :=
  ∃ (a : Option Addr) (cap b off : Nat), v = .slice a xs.length cap ∧ xs.length ≤ cap ∧ cap ≤ maxLen ∧ (xs = [] ∨ a = some ⟨b, off, none⟩) ∧
    ∀ i x, xs[i]? = some x → ∃ cs, cs.length = n ∧ R w cs x ∧ ∀ j u, cs[j]? = some u → w.cell? ⟨b, off + i * n + j, none⟩ = some u

theorem RdG.below {α : Type} {n : Nat} {R : World → List Value → α → Prop} {w w' : World} {v : Value} {xs : List α} (h : RdG n R w v xs) (hR : ∀ cs x, R w cs x → R w' cs x) (hb : Below w.heap.size w w') : RdG n R w' v xs := by
  obtain ⟨a, cap, b, off, h1, h2, h3, h4, h5⟩ := h
  refine ⟨a, cap, b, off, h1, h2, h3, h4, fun i x hx => ?_⟩
  obtain ⟨cs, hl, hr, hc⟩ := h5 i x hx
  refine ⟨cs, hl, hR _ _ hr, fun j u hu => ?_⟩
  have := hc j u hu
  rw [hb.cell (p := ⟨b, off + i * n + j, none⟩) (World.block_lt_of_cell? w _ this)]
  exact this

/-- A slice's cell that came in, element by element. -/
theorem open_cells {P : Program} {H : Type} {enc : TypeId × Value → H} {W : World} {t e n fuel : Nat} {cs : List Value} {x : DataW H × List MemPlace}
    (ht : P.underlying t = some (.slice e)) (hn : P.cellsOf e = n) (hn0 : 0 < n)
    {α : Type} {R : World → List Value → α → Prop} (hel : ∀ fuel cs y, DataW.trod enc P W 0 (fun _ => true) true fuel e cs = some y → cs.length = n → ∃ x, R W cs x)
    (h : DataW.trod enc P W 0 (fun _ => true) true fuel t cs = some x) : ∃ (v : Value) (xs : List α), cs = [v] ∧ RdG n R W v xs := by
  rcases DataW.trod_slice ht h with ⟨rfl, _⟩ | ⟨a, len, cap, elems, rest, m, _, rfl, _, _, hl, hm, hlen, hel2, _, _⟩
  · exact ⟨_, [], rfl, none, 0, 0, 0, rfl, Nat.le_refl _, Nat.zero_le _, .inl rfl, by simp⟩
  · rw [hn] at hel2
    have each : ∀ i, i < len → ∃ cs y, W.cells? 0 (a.add (i * n)) n = some cs ∧ DataW.trod enc P W 0 (fun _ => true) true m e cs = some y := by
      intro i hi
      have h1 := hel2 i hi
      rw [List.getElem?_eq_getElem (by omega)] at h1
      obtain ⟨cs, h2, h3⟩ := Option.bind_eq_some_iff.1 h1
      exact ⟨cs, _, h2, h3⟩
    by_cases h0 : len = 0
    · subst h0
      exact ⟨_, [], rfl, some a, cap, 0, 0, rfl, Nat.zero_le _, hm, .inl rfl, by simp⟩
    · obtain ⟨b, off, spot⟩ := a
      have hspot : spot = none := by
        obtain ⟨cs, y, h1, _⟩ := each 0 (by omega)
        obtain ⟨_, hl1, hc⟩ := World.cells?_some h1
        have h2 := hc 0 hn0
        have h3 : ((⟨b, off, spot⟩ : Addr).add (0 * n)).add 0 = ⟨b, off, spot⟩ := by simp [Addr.add]
        rw [h3] at h2
        exact World.cell?_spot (h2.trans (List.getElem?_eq_getElem (by omega)))
      subst hspot
      obtain ⟨xs, hxl, hx⟩ := choose_list (α := α) (Q := fun i x => ∃ cs, cs.length = n ∧ R W cs x ∧ ∀ j u, cs[j]? = some u → W.cell? ⟨b, off + i * n + j, none⟩ = some u) len (by
        intro i hi
        obtain ⟨cs, y, h1, h2⟩ := each i hi
        obtain ⟨_, hl1, hc⟩ := World.cells?_some h1
        obtain ⟨z, hz⟩ := hel _ _ _ h2 hl1
        refine ⟨z, cs, hl1, hz, fun j u hu => ?_⟩
        have hj : j < n := by rw [← hl1]; exact (List.getElem?_eq_some_iff.1 hu).1
        have h4 := hc j hj
        rw [add_plain, add_plain] at h4
        rw [h4, hu])
      exact ⟨_, xs, rfl, _, cap, b, off, by rw [hxl], by omega, hm, .inr rfl, hx⟩

theorem open_g {P : Program} {H : Type} {enc : TypeId × Value → H} {W : World} {base t e n : Nat} {v : Value} {d : DataW H} {ps : List MemPlace}
    (ht : P.underlying t = some (.slice e)) (hn : P.cellsOf e = n) (hn0 : 0 < n)
    {α : Type} {R : World → List Value → α → Prop} (hel : ∀ fuel cs y, DataW.trod enc P W 0 (fun _ => true) true fuel e cs = some y → cs.length = n → ∃ x, R W cs x)
    (hok : Value.okWide P W .any base t v) (h : DataW.Trod enc P W 0 (fun _ => true) true t v d ps) : ∃ xs : List α, RdG n R W v xs := by
  obtain ⟨a0, len, cap, rfl⟩ := okWide_slice ht hok
  obtain ⟨fuel, hf⟩ := h
  obtain ⟨v, xs, h1, h2⟩ := open_cells ht hn hn0 hel hf
  simp [Value.cells] at h1
  subst h1
  exact ⟨xs, h2⟩

/-- One cell an element. -/
theorem RdG.one {α : Type} {f : α → Value} {Q : α → Prop} {w : World} {v : Value} {xs : List α} (h : RdG 1 (fun _ cs x => cs = [f x] ∧ Q x) w v xs) : RdC f w v xs ∧ ∀ x ∈ xs, Q x := by
  obtain ⟨a, cap, b, off, h1, h2, h3, h4, h5⟩ := h
  refine ⟨⟨a, cap, b, off, h1, h2, h3, h4, fun i x hx => ?_⟩, fun x hx => ?_⟩
  · obtain ⟨cs, _, ⟨rfl, _⟩, hc⟩ := h5 i x hx
    have := hc 0 (f x) rfl
    rwa [Nat.mul_one, Nat.add_zero] at this
  · obtain ⟨i, hi⟩ := List.mem_iff_getElem?.1 hx
    obtain ⟨cs, _, ⟨_, hq⟩, _⟩ := h5 i x hi
    exact hq

section
variable {P : Program} {H : Type} {enc : TypeId × Value → H} {W : World} {base : Nat} {v : Value} {d : DataW H} {ps : List MemPlace}
theorem el_int {e : Nat} {k : IntKind} (he : P.underlying e = some (.int k)) : ∀ fuel cs y, DataW.trod enc P W 0 (fun _ => true) true fuel e cs = some y → cs.length = 1 → ∃ x : Int, cs = [.int k x] ∧ (Lit.int k x).wf = true := by
  intro fuel cs y h hl
  cases fuel with
  | zero => simp [DataW.trod] at h
  | succ f =>
    match cs, hl with
    | [c], _ =>
      unfold DataW.trod at h
      simp only [he] at h
      cases c <;> simp at h
      obtain ⟨⟨rfl, hw⟩, _⟩ := h
      exact ⟨_, rfl, hw⟩
theorem el_float {e : Nat} {k : FloatKind} (he : P.underlying e = some (.float k)) : ∀ fuel cs y, DataW.trod enc P W 0 (fun _ => true) true fuel e cs = some y → cs.length = 1 → ∃ x : Nat, cs = [.float k x] ∧ (Lit.float k x).wf = true := by
  intro fuel cs y h hl
  cases fuel with
  | zero => simp [DataW.trod] at h
  | succ f =>
    match cs, hl with
    | [c], _ =>
      unfold DataW.trod at h
      simp only [he] at h
      cases c <;> simp at h
      obtain ⟨⟨rfl, hw⟩, _⟩ := h
      exact ⟨_, rfl, hw⟩
theorem el_string {e : Nat} (he : P.underlying e = some .string) : ∀ fuel cs y, DataW.trod enc P W 0 (fun _ => true) true fuel e cs = some y → cs.length = 1 → ∃ x : ByteArray, cs = [.string x] ∧ x.size ≤ maxLen := by
  intro fuel cs y h hl
  cases fuel with
  | zero => simp [DataW.trod] at h
  | succ f =>
    match cs, hl with
    | [c], _ =>
      unfold DataW.trod at h
      simp only [he] at h
      cases c <;> simp at h
      exact ⟨_, rfl, h.1⟩
end

theorem qsame {P : Program} {f : FuncId} {args : Array Value} {w : World} {n : Nat} {v : Value}
    (h : Calls P f args (w.drewN n) fun e w' => e = .returned v ∧ w.drewN n = w') : Calls P f args (w.drewN n) fun e w'' => e = .returned v ∧ ∃ m, w'' = w.drewN m :=
  h.mono fun _ _ ⟨he, hm⟩ => ⟨he, n, hm.symm⟩
theorem below_drewN {B : Nat} {a w : World} (h : Below B a w) (n : Nat) : Below B a (w.drewN n) := ⟨h.os, h.tape, h.output, h.size, h.block⟩
theorem size_alloc_le (w : World) (o : Obj) : w.heap.size ≤ (w.alloc o).heap.size := by simp [-World.alloc_eq]
theorem one_float (k : FloatKind) (x : Nat) : ∀ u ∈ [Value.float k x], u.oneCell' = true := by intro u hu; simp at hu; subst hu; rfl
theorem one_int (k : IntKind) (x : Int) : ∀ u ∈ [Value.int k x], u.oneCell' = true := by intro u hu; simp at hu; subst hu; rfl
theorem one_string (x : ByteArray) : ∀ u ∈ [Value.string x], u.oneCell' = true := by intro u hu; simp at hu; subst hu; rfl
@[go_sem] theorem run_store_float {P : Program} {w : World} {a : Addr} {m : Mode} (k : FloatKind) (x : Nat) : (store a (.float k x) m).run P w = stored P w a (.float k x) m := run_store P w a _ m rfl
theorem ret_bool {a b : Bool} (h : a = b) : Ending.returned (.bool a) = .returned (.bool b) := by rw [h]
theorem RdC.at {α : Type} {f : α → Value} {w wr : World} {b off : Nat} {xs : List α} (hc : ∀ i x, xs[i]? = some x → w.cell? ⟨b, off + i, none⟩ = some (f x)) (hb : Below w.heap.size w wr) {k : Nat} (hk : k < xs.length) :
    wr.cell? ⟨b, off + k, none⟩ = some (f xs[k]) := by
  have h := hc k xs[k] (List.getElem?_eq_getElem hk)
  rw [hb.cell (p := ⟨b, off + k, none⟩) (World.block_lt_of_cell? w _ h)]
  exact h
end Go.Proofs.YtojlpfakdodnfaaGreatDoor
