/- impl.labels: pairs as a map. -/
import Derived.Test.YtojlpfakdodnfaaGreatDoorPrs
import Derived.Maps.StringElems
import Derived.Maps.RangeWalk
import Derived.Deep.DeepMust
set_option linter.unusedVariables false
set_option linter.unusedSimpArgs false
namespace Go.Proofs.YtojlpfakdodnfaaGreatDoor
open Go.RowKit Go.Maps

def keyL (s : ByteArray) : Lit := .string s.data.toList
theorem keyL_inj {s t : ByteArray} (h : keyL s = keyL t) : s = t := by
  unfold keyL at h
  injection h with h
  exact Go.WideShapes.bytes_inj h
theorem keyL_lit (s : ByteArray) : WideAt.IsKeyLit (keyL s) := by unfold keyL; trivial
theorem lawS : Keyed Tryz.prog 9 := string_keyed Tryz.underlying9
noncomputable abbrev strE : Value → Option (DataW Unit × List MemPlace) := plainElem Tryz.prog 9
def litS (s : ByteArray) : DataW Unit := .lit (.string s.data.toList)
theorem litS_inj {s t : ByteArray} (h : litS s = litS t) : s = t := by
  unfold litS at h
  injection h with h
  injection h with h
  exact Go.WideShapes.bytes_inj h
theorem strE_of {s : ByteArray} (h : s.size ≤ maxLen) : strE (.string s) = some (litS s, []) := plainElem_string Tryz.underlying9 h
theorem key_of {s : ByteArray} (h : s.size ≤ maxLen) : keyOf Tryz.prog 9 (.string s) = some (keyL s) := WideMaps.keyOf_string_mk Tryz.underlying9 h
/-- The datum of the map that pairs make. -/
def mD : List Ent → DataW Unit
  | l => l.foldl (fun d p => d.put (keyL p.1) (litS p.2)) (.map [])
theorem mD_snoc (l : List Ent) (p : Ent) : mD (l ++ [p]) = (mD l).put (keyL p.1) (litS p.2) := by unfold mD; rw [List.foldl_append]; rfl
theorem fold_map : ∀ (l : List Ent) (d : DataW Unit), IsMap d → IsMap (l.foldl (fun d p => d.put (keyL p.1) (litS p.2)) d)
  | [], _, h => h
  | p :: l, d, h => by
    obtain ⟨es, rfl⟩ := h
    exact fold_map l _ ⟨_, rfl⟩
theorem mD_map (l : List Ent) : IsMap (mD l) := fold_map l _ ⟨_, rfl⟩
def lookD : Option ByteArray → DataW Unit
  | some s => litS s
  | none => .nil
theorem snoc_ind {P : List Ent → Prop} (h0 : P []) (h1 : ∀ l p, P l → P (l ++ [p])) : ∀ l, P l := by
  intro l
  have : ∀ n (l : List Ent), l.length = n → P l := by
    intro n
    induction n with
    | zero => intro l hl; rw [List.eq_nil_of_length_eq_zero hl]; exact h0
    | succ n ih =>
      intro l hl
      have hne : l ≠ [] := by intro h; rw [h] at hl; simp at hl
      rw [← List.dropLast_concat_getLast hne]
      exact h1 _ _ (ih _ (by rw [List.length_dropLast]; omega))
  exact this _ l rfl
theorem mD_at (l : List Ent) (s : ByteArray) : (mD l).atKey (keyL s) .nil = lookD (look s (fit l)) := by
  refine snoc_ind (P := fun l => (mD l).atKey (keyL s) .nil = lookD (look s (fit l))) rfl (fun l p ih => ?_) l
  rw [mD_snoc, look_snoc]
  by_cases h : p.1 = s
  · rw [if_pos h, ← h, atKey_put_same (mD_map l) (keyL_lit p.1)]
    rfl
  · rw [if_neg h, atKey_put_other (fun hk => h (keyL_inj hk).symm), ih]
theorem mD_has (l : List Ent) (s : ByteArray) : Maps.has (mD l) (keyL s) = (look s (fit l)).isSome := by
  refine snoc_ind (P := fun l => Maps.has (mD l) (keyL s) = (look s (fit l)).isSome) rfl (fun l p ih => ?_) l
  rw [mD_snoc, look_snoc]
  by_cases h : p.1 = s
  · rw [if_pos h, ← h, has_put_same (mD_map l) (keyL_lit p.1)]
    rfl
  · rw [if_neg h, has_put_other (fun hk => h (keyL_inj hk).symm), ih]
/-- The map of pairs; none, without any. -/
def MapOf (w : World) (B : Nat) (mv : Value) (l : List Ent) : Prop :=
  (l = [] ∧ mv = .map none) ∨ ∃ b, mv = .map (some b) ∧ B ≤ b ∧ l ≠ [] ∧ w.ownsMap Tryz.prog 9 strE b l.length (mD l)
theorem MapOf.chg {S : Nat → Prop} {w x : World} {B : Nat} {mv : Value} {l : List Ent} (h : MapOf w B mv l) (hc : Chg S w x) (hS : ∀ b, mv = .map (some b) → ¬ S b) : MapOf x B mv l := by
  rcases h with h | ⟨b, h1, h2, h3, h4⟩
  · exact .inl h
  · exact .inr ⟨b, h1, h2, h3, hc.map h4 (hS b h1)⟩
def SaidM (l : List Ent) (w w' : World) (e : Ending) : Prop := (∃ mv, e = .returned mv ∧ MapOf w' w.heap.size mv l) ∧ Below w.heap.size w w'

set_option maxHeartbeats 1600000 in
set_option maxRecDepth 100000 in
theorem labelsK (v : Value) (l : List Ent) (w : World) (hv : RdE w v l) (hf : ∀ x ∈ l, Fine x) : Calls Tryz.prog 44 #[v] w fun e w' => SaidM l w w' e := by
  have HF := Lib.hid hf
  have hmm := @run_makeMap Tryz.prog
  obtain ⟨a, cap, b, off, rfl, hcap, hmx, ha, hc⟩ := hv
  unfold maxLen at hmx
  have HC := Lib.hid hc
  clear hf hc
  have hq1 : ∀ w : World, Sem.run Tryz.prog (binOp BinOp.eql 72 (.map none) (.map none)) w = .ok (.bool true) w := fun _ => by kernel_rfl
  have hq2 : ∀ (b : Nat) (w : World), Sem.run Tryz.prog (binOp BinOp.eql 72 (.map (some b)) (.map none)) w = .ok (.bool false) w := fun _ _ => by kernel_rfl
  go_enter Tryz.func44, Tryz.ntmps44
  go_wp2_with fail
  go_loopw [3, 8] (fun mv i wr => ∃ k : Nat, k ≤ l.length ∧ i = .int .i64 k ∧ MapOf wr w.heap.size mv (l.take k) ∧ Below w.heap.size w wr) (fun _ i _ => l.length - (intOf i).toNat)
  case atStart => exact ⟨0, Nat.zero_le _, rfl, .inl ⟨rfl, rfl⟩, Below.refl _ _⟩
  case round =>
    obtain ⟨k, hk, rfl, hM, hbr⟩ := hrel
    by_cases hlt : k < l.length
    · obtain rfl : a = some ⟨b, off, none⟩ := by
        rcases ha with h | h
        · rw [h] at hlt; exact absurd hlt (Nat.not_lt_zero _)
        · exact h
      obtain ⟨c1, c2⟩ := HC.out k l[k] (List.getElem?_eq_getElem hlt)
      have d1 := (hbr.cell (p := ⟨b, off + k * 2, none⟩) (World.block_lt_of_cell? w _ c1)).trans c1
      have d2 := (hbr.cell (p := ⟨b, off + k * 2 + 1, none⟩) (World.block_lt_of_cell? w _ c2)).trans c2
      obtain ⟨f1, f2⟩ := HF.out l[k] (List.getElem_mem hlt)
      have HT := Lib.hid (List.take_succ_eq_append_getElem hlt)
      have hkl : (l.take k).length = k := by rw [List.length_take]; omega
      have HKL := Lib.hid hkl
      generalize l.take k = l0 at *
      clear c1 c2 hkl
      generalize l[k] = p at *
      obtain ⟨s, t⟩ := p
      simp only at d1 d2 f1 f2
      have hkey := key_of f1
      have hval := strE_of f2
      have HML := Lib.hid (mD_snoc l0 (s, t))
      rcases hM with ⟨h1, rfl⟩ | ⟨b1, rfl, hb1, hne, hown⟩
      · subst h1
        obtain rfl : k = 0 := by have := HKL.out; simpa using this.symm
        simp only [Nat.zero_mul, Nat.add_zero] at d1 d2
        have hown0 : ((wr.alloc (.cells #[.string s, .string t] 68)).alloc (.map #[] 0)).ownsMap (H := Unit) Tryz.prog 9 strE (wr.heap.size + 1) 0 (.map []) := by
          have h := World.ownsMap_made (H := Unit) (wr.alloc (.cells #[.string s, .string t] 68)) Tryz.prog 9 strE
          rwa [show (wr.alloc (.cells #[.string s, .string t] 68)).heap.size = wr.heap.size + 1 by simp] at h
        have hb1 : Below w.heap.size w ((wr.alloc (.cells #[.string s, .string t] 68)).alloc (.map #[] 0)) := (hbr.alloc hbr.size _).alloc (by simp; have := hbr.size; omega) _
        have hwr := hbr.size
        go_wp2_with (at_mapUpdate; go_must (refine wpList_mapUpdate_own _ rfl _ _ _ 72 rfl 9 9 lawS Tryz.underlying72 strE (wr.heap.size + 1) 0 (.map []) rfl hown0 (by unfold maxLen; omega) _ _ _ rfl rfl hkey _ [] hval ?_))
        intro w2 hown2 hg2
        have hb2 : Below w.heap.size w w2 := hb1.grown hg2 hb1.size (fun q hq => by cases hq; omega)
        go_wp2_with fail
        go_roundw
        case rel => exact ⟨1, by omega, by go_num, by rw [HT.out]; exact .inr ⟨_, rfl, by omega, by simp, hown2⟩, hb2⟩
        case measure => simp [intOf]; omega
      · go_wp2_with (at_mapUpdate; go_must (refine wpList_mapUpdate_own _ rfl _ _ _ 72 rfl 9 9 lawS Tryz.underlying72 strE b1 l0.length (mD l0) rfl (hown.alloc _) (by rw [HKL.out]; unfold maxLen; omega) _ _ _ rfl rfl hkey _ [] hval ?_))
        intro w2 hown2 hg2
        have hb0 := hbr.alloc hbr.size (.cells #[.string s, .string t] 68)
        have hb2 : Below w.heap.size w w2 := hb0.grown hg2 hb0.size (fun q hq => by cases hq; omega)
        have HO : Hid (MapOf w2 w.heap.size (.map (some b1)) (l0 ++ [(s, t)])) := Lib.hid (.inr ⟨b1, rfl, hb1, by simp, by rw [HML.out, List.length_append]; exact hown2⟩)
        clear hown hown2 hb0
        go_wp2_with fail
        go_roundw
        case rel => exact ⟨k + 1, by omega, by go_num, by rw [HT.out]; exact HO.out, hb2⟩
        case measure => simp [intOf]; omega
    · have hkl : l.take k = l := List.take_of_length_le (by omega)
      rw [hkl] at hM
      go_wp2_with fail
      go_ret
      exact ⟨⟨_, rfl, hM⟩, hbr⟩
end Go.Proofs.YtojlpfakdodnfaaGreatDoor
