/- The groups of edits: the rows they lie in. -/
import Derived.Test.YtkbppaddghfgpaaDoorOpc
import Derived.Test.YtkbppaddghfgpaaDoorSpU2
import Derived.Deep.DeepCutAuto
set_option linter.unusedVariables false
set_option linter.unusedSimpArgs false
namespace Go.Proofs.YtkbppaddghfgpaaDoor
open Go.RowKit Go.Maps

/-- The five cells of an edit, in an array. -/
def FiveIn (cur : Array Value) (a : Nat) (e : Ed) : Prop :=
  cur[a]? = some (.int .u8 (e.tag : Int)) ∧ cur[a + 1]? = some (.int .i64 (e.i1 : Int)) ∧ cur[a + 2]? = some (.int .i64 (e.i2 : Int)) ∧ cur[a + 3]? = some (.int .i64 (e.j1 : Int)) ∧ cur[a + 4]? = some (.int .i64 (e.j2 : Int))
/-- A block of this call's own that holds edits. -/
def Row (w : World) (cb : Nat) (l : List Ed) : Prop :=
  ∃ cur : Array Value, w.heap[cb]? = some (.cells cur 63 (0, 0)) ∧ l.length * 5 ≤ cur.size ∧ ∀ (i : Nat) (e : Ed), l[i]? = some e → FiveIn cur (i * 5) e
theorem Row.five {w : World} {cb : Nat} {l : List Ed} (h : Row w cb l) {i : Nat} {e : Ed} (hi : l[i]? = some e) : FiveAt w cb (i * 5) e := by
  obtain ⟨cur, hb, _, hc⟩ := h
  obtain ⟨f0, f1, f2, f3, f4⟩ := hc i e hi
  refine ⟨?_, ?_, ?_, ?_, ?_⟩ <;> simp only [World.cell?, hb]
  · exact f0
  · exact f1
  · exact f2
  · exact f3
  · exact f4
theorem Row.frozen {w : World} {cb : Nat} {l : List Ed} (h : Row w cb l) (i : Nat) : w.frozen? ⟨cb, i, none⟩ = false := by
  obtain ⟨cur, hb, _, _⟩ := h
  simp [World.frozen?, hb]
theorem Row.lt {w : World} {cb : Nat} {l : List Ed} (h : Row w cb l) : cb < w.heap.size := by
  obtain ⟨cur, hb, _⟩ := h
  exact (Array.getElem?_eq_some_iff.1 hb).1
theorem Row.of_block {w w' : World} {cb : Nat} {l : List Ed} (h : Row w cb l) (e : w'.heap[cb]? = w.heap[cb]?) : Row w' cb l := by
  obtain ⟨cur, hb, h1, h2⟩ := h
  exact ⟨cur, e.trans hb, h1, h2⟩
theorem Row.of_owns {w : World} {B n : Nat} {v : Value} {l : List Ed} (h : w.ownsRow B 63 5 v n (fiv l)) (hn : n = l.length) (hne : l ≠ []) :
    ∃ cb cap, v = .slice (some ⟨cb, 0, none⟩) l.length cap ∧ B ≤ cb ∧ l.length ≤ cap ∧ cap ≤ maxLen ∧ Row w cb l := by
  subst hn
  obtain ⟨hl, h | ⟨g, cap, cur, rfl, hB, hb, hc, hm, hs, ht⟩⟩ := h
  · exact absurd (List.eq_nil_of_length_eq_zero h.2) hne
  · have key : ∀ (j : Nat) (v : Value), (fiv l)[j]? = some v → cur[j]? = some v := fun j v hj => by
      rw [← ht] at hj
      obtain ⟨h1, h2⟩ := List.getElem?_eq_some_iff.1 hj
      rw [List.length_take] at h1
      rw [List.getElem_take] at h2
      rw [← Array.getElem?_toList, List.getElem?_eq_getElem (by omega), h2]
    refine ⟨g, cap, rfl, hB, hc, hm, cur, hb, by rw [hs]; exact Nat.mul_le_mul_right 5 hc, fun i e hi => ?_⟩
    obtain ⟨f0, f1, f2, f3, f4⟩ := fiv_get l i e hi
    exact ⟨key _ _ f0, key _ _ f1, key _ _ f2, key _ _ f3, key _ _ f4⟩
theorem set5_hit (cur : Array Value) (a : Nat) (v0 v1 v2 v3 v4 : Value) (h : a + 4 < cur.size) :
    let c := ((((cur.setIfInBounds a v0).setIfInBounds (a + 1) v1).setIfInBounds (a + 2) v2).setIfInBounds (a + 3) v3).setIfInBounds (a + 4) v4
    c[a]? = some v0 ∧ c[a + 1]? = some v1 ∧ c[a + 2]? = some v2 ∧ c[a + 3]? = some v3 ∧ c[a + 4]? = some v4 := by
  intro c
  refine ⟨?_, ?_, ?_, ?_, ?_⟩ <;> simp [c, Array.getElem?_setIfInBounds] <;> omega
theorem set5_miss (cur : Array Value) (a j : Nat) (v0 v1 v2 v3 v4 : Value) (h : j < a ∨ a + 4 < j) :
    (((((cur.setIfInBounds a v0).setIfInBounds (a + 1) v1).setIfInBounds (a + 2) v2).setIfInBounds (a + 3) v3).setIfInBounds (a + 4) v4)[j]? = cur[j]? := by
  simp only [Array.getElem?_setIfInBounds]
  rw [if_neg (by omega), if_neg (by omega), if_neg (by omega), if_neg (by omega), if_neg (by omega)]
theorem Row.set5 {w : World} {cb : Nat} {l : List Ed} (h : Row w cb l) (k a : Nat) (hk : k < l.length) (ha : a = k * 5) (e : Ed) :
    Row (((((w.setCell ⟨cb, a, none⟩ (.int .u8 (e.tag : Int))).setCell ⟨cb, a + 1, none⟩ (.int .i64 (e.i1 : Int))).setCell ⟨cb, a + 2, none⟩ (.int .i64 (e.i2 : Int))).setCell ⟨cb, a + 3, none⟩ (.int .i64 (e.j1 : Int))).setCell ⟨cb, a + 4, none⟩ (.int .i64 (e.j2 : Int))) cb (l.set k e) := by
  obtain ⟨cur, hb, hs, hc⟩ := h
  refine ⟨_, Lib.heap_setCell_same (Lib.heap_setCell_same (Lib.heap_setCell_same (Lib.heap_setCell_same (Lib.heap_setCell_same hb _) _) _) _) _, by simpa using hs, fun i x hx => ?_⟩
  rw [List.getElem?_set] at hx
  by_cases hik : k = i
  · subst hik
    rw [if_pos rfl, if_pos hk] at hx
    obtain rfl := Option.some.inj hx
    rw [← ha]
    exact set5_hit cur a _ _ _ _ _ (by omega)
  · rw [if_neg hik] at hx
    obtain ⟨f0, f1, f2, f3, f4⟩ := hc i x hx
    refine ⟨?_, ?_, ?_, ?_, ?_⟩
    · rw [set5_miss _ _ _ _ _ _ _ _ (by omega)]; exact f0
    · rw [set5_miss _ _ _ _ _ _ _ _ (by omega)]; exact f1
    · rw [set5_miss _ _ _ _ _ _ _ _ (by omega)]; exact f2
    · rw [set5_miss _ _ _ _ _ _ _ _ (by omega)]; exact f3
    · rw [set5_miss _ _ _ _ _ _ _ _ (by omega)]; exact f4
theorem below_set5 {M : Nat} {w0 w : World} (h : Below M w0 w) {cb a : Nat} (hc : M ≤ cb) (v0 v1 v2 v3 v4 : Value) :
    Below M w0 (((((w.setCell ⟨cb, a, none⟩ v0).setCell ⟨cb, a + 1, none⟩ v1).setCell ⟨cb, a + 2, none⟩ v2).setCell ⟨cb, a + 3, none⟩ v3).setCell ⟨cb, a + 4, none⟩ v4) :=
  ((((h.setCell (p := ⟨cb, a, none⟩) hc _).setCell (p := ⟨cb, a + 1, none⟩) hc _).setCell (p := ⟨cb, a + 2, none⟩) hc _).setCell (p := ⟨cb, a + 3, none⟩) hc _).setCell (p := ⟨cb, a + 4, none⟩) hc _

set_option maxHeartbeats 400000 in
set_option maxRecDepth 100000 in
theorem maxI (x y : Int) (w : World) :
    Calls Tryd.prog 29 #[.int .i64 x, .int .i64 y] w fun e w' => e = .returned (.int .i64 (max x y)) ∧ w' = w := by
  by_cases h0 : y < x
  · have HR : Hid (max x y = x) := Lib.hid (by omega)
    go_enter Tryd.func29, Tryd.ntmps29
    go_wp2_with fail
    go_ret
    exact ⟨by rw [HR.out]; rfl, rfl⟩
  · have HR : Hid (max x y = y) := Lib.hid (by omega)
    go_enter Tryd.func29, Tryd.ntmps29
    go_wp2_with fail
    go_ret
    exact ⟨by rw [HR.out]; rfl, rfl⟩
set_option maxHeartbeats 400000 in
set_option maxRecDepth 100000 in
theorem minI (x y : Int) (w : World) :
    Calls Tryd.prog 30 #[.int .i64 x, .int .i64 y] w fun e w' => e = .returned (.int .i64 (min x y)) ∧ w' = w := by
  by_cases h0 : x < y
  · have HR : Hid (min x y = x) := Lib.hid (by omega)
    go_enter Tryd.func30, Tryd.ntmps30
    go_wp2_with fail
    go_ret
    exact ⟨by rw [HR.out]; rfl, rfl⟩
  · have HR : Hid (min x y = y) := Lib.hid (by omega)
    go_enter Tryd.func30, Tryd.ntmps30
    go_wp2_with fail
    go_ret
    exact ⟨by rw [HR.out]; rfl, rfl⟩
end Go.Proofs.YtkbppaddghfgpaaDoor
