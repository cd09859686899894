/- A region that draws its order, whose first operation is a move that waits for nothing, with a tail of operations in a row: the move may be taken first, and the region be walked as if the tail waited for it. Of no program. -/
import Derived.Test.YtkbppaddghfgpaaDoorGrp3
import Derived.StillTailTactics
import Derived.BigRegion
set_option linter.unusedVariables false
set_option linter.unusedSimpArgs false
namespace Go.Proofs.YtkbppaddghfgpaaDoor

def lateOp (o : Oper) : Oper := { o with after := o.after.push ⟨0, .data⟩ }
/-- The same operations; the n-th one waits for the first one besides. -/
def lateAt (l : List Oper) (n : Nat) : List Oper := l.modify n lateOp
section
variable {P : Program} {Q : Exit → Act → World → Prop} {l : List Oper} {n : Nat}
theorem late_get (j : Nat) : (lateAt l n).toArray[j]? = (l.toArray[j]?).map fun o => if n = j then lateOp o else o := by
  simp [lateAt, List.getElem?_modify]
theorem late_dst (o : Oper) (j : Nat) : (if n = j then lateOp o else o).dst = o.dst := by split <;> rfl
theorem late_yield (tmps : Array Value) : yielded (lateAt l n).toArray tmps = yielded l.toArray tmps := by
  funext g
  unfold yielded
  rw [late_get]
  cases l.toArray[g]? with
  | none => rfl
  | some o => simp only [Option.map_some, Option.bind_some, late_dst]
theorem late_wpOp {i : Nat} {K : Act → World → Prop} {a : Act} {w : World} (h : wpOp P (lateAt l n).toArray Q i K a w) : wpOp P l.toArray Q i K a w := by
  unfold wpOp at *
  rw [late_get, late_yield] at h
  cases hi : l.toArray[i]? with
  | none => simp only [hi, Option.map_none] at h; exact h
  | some o =>
    simp only [hi, Option.map_some] at h ⊢
    by_cases hn : n = i
    · rw [if_pos hn] at h
      exact h
    · rw [if_neg hn] at h
      exact h
theorem late_ready {j : Nat} {listed : Array Bool} (h0 : listed.getD 0 false = true) : j ∈ Region.ready .any l.toArray listed ↔ j ∈ Region.ready .any (lateAt l n).toArray listed := by
  rw [mem_ready, mem_ready]
  constructor
  · rintro ⟨h1, o, ho, hall⟩
    refine ⟨h1, if n = j then lateOp o else o, by rw [late_get, ho]; rfl, fun e he hb => ?_⟩
    by_cases hn : n = j
    · rw [if_pos hn] at he
      rcases Array.mem_push.1 he with he | he
      · exact hall e he hb
      · rw [he]; exact h0
    · rw [if_neg hn] at he
      exact hall e he hb
  · rintro ⟨h1, o, ho, hall⟩
    rw [late_get] at ho
    obtain ⟨o1, ho1, rfl⟩ := Option.map_eq_some_iff.1 ho
    refine ⟨h1, o1, ho1, fun e he hb => hall e ?_ hb⟩
    split
    · exact Array.mem_push.2 (.inl he)
    · exact he
theorem late_any : ∀ (fuel : Nat) (listed : Array Bool) (a : Act) (w : World), listed.getD 0 false = true → wpAny P .any (lateAt l n).toArray Q fuel listed a w → wpAny P .any l.toArray Q fuel listed a w
  | 0, listed, a, w, h0, h => by
    refine ⟨List.eq_nil_iff_forall_not_mem.2 fun j hj => ?_, h.2⟩
    have := (late_ready (n := n) h0).1 hj
    rw [h.1] at this
    cases this
  | fuel + 1, listed, a, w, h0, h => by
    refine ⟨fun hr => h.1 (List.eq_nil_iff_forall_not_mem.2 fun j hj => ?_), fun i hi => ?_⟩
    · have := (late_ready (n := n) h0).2 hj
      rw [hr] at this
      cases this
    · exact late_wpOp (wpOp_mono (fun a' w' h' => late_any fuel _ a' w' (getD_set_true h0) h') (h.2 i ((late_ready h0).1 hi)))

theorem wp_region_float {id : Nat} {a : Act} {w : World} {s : Tmp} {o0 : Oper} (n : Nat) (hm : P.follows .mixedOrders = true) (hB : Region.lexTailB .any (lateAt l n).toArray n = true)
    (h0 : l.toArray[0]? = some o0) (hop : o0.op = .move (.tmp s)) (hgd : o0.guard = none) (hn0 : n ≠ 0) (hsel0 : Region.noSelect l.toArray = true)
    (hfree : Region.free .any l.toArray (Array.replicate l.toArray.size false) 0 = true) (hrd : (Region.ready .any l.toArray (Array.replicate l.toArray.size false)).contains 0 = true)
    (hQ : ∀ c a w v, Q (.panic c) (a.put o0.dst v) w → Q (.panic c) a w)
    (h : wpStill P (lateAt l n).toArray { w with drawn := w.drawn + 1 } (fun a' => wpList P (lateAt l n).toArray Q ((lateAt l n).drop n) a' { w with drawn := w.drawn + 1 }) ((lateAt l n).take n) a) : (Code.region id l.toArray true).wp P Q a w := by
  simp only [Region.lexTailB, Bool.and_eq_true, decide_eq_true_eq] at hB
  obtain ⟨⟨⟨⟨hsel, hn⟩, hs⟩, hc⟩, hlex⟩ := hB
  have hsz : (lateAt l n).length = l.length := by simp [lateAt]
  have hn' : n < (lateAt l n).length := by simpa using hn
  have htl : ((lateAt l n).take n).length = n := by simp; omega
  have hdl : ((lateAt l n).drop n).length = (lateAt l n).toArray.size - n := by simp
  have inv0 : HeadInv .any (lateAt l n).toArray n (Array.replicate (lateAt l n).toArray.size false) :=
    ⟨by simp, fun j oj _ hl => (by rw [getD_replicate_false] at hl; cases hl), fun t _ ht => getD_in (by simpa using ht) (getD_replicate_false _ _)⟩
  have H := wpAnyL_lex (md := .any) (g := (lateAt l n).toArray.size - n) hsel hs hc hn ((lateAt l n).take n) 0 _ a (fun j hj => by
    have hj' : j < n := by rw [htl] at hj; exact hj
    simp [hj']) (by simpa using htl) inv0 (by rw [htl]; exact hlex) h
  have H2 := wpAny_of_head (Q' := Q) (g := (lateAt l n).toArray.size - n) (fun listed a' hL => by
    have := wpAny_of_seq (md := .any) (Q' := Q) ((lateAt l n).drop n) n listed a' { w with drawn := w.drawn + 1 } (fun j => by simp [List.getElem?_drop]) (by rw [hdl]; exact hL.1) hL.2
    rwa [hdl] at this) _ _ _ H
  rw [htl, show n + ((lateAt l n).toArray.size - n) = l.length by simp [hsz]; omega] at H2
  have hsl : (lateAt l n).toArray.size = l.length := by simp [hsz]
  rw [hsl] at H2
  refine wp_region_any hm ?_
  have hls : l.toArray.size = l.length := by simp
  rw [hls] at hfree hrd ⊢
  have hpos : 0 < l.length := by omega
  obtain ⟨m, hml⟩ : ∃ m, l.length = m + 1 := ⟨l.length - 1, by omega⟩
  have hrd' : 0 ∈ Region.ready .any l.toArray (Array.replicate l.length false) := by simpa using hrd
  have hy : Yields P l.toArray o0 (a.eval (.tmp s)) a := .inl ⟨by simp [Region.wanted, hgd], fun w => BigFrame.run_move (.tmp s) hop w⟩
  -- the first operation, in the region whose tail waits
  have hr0 : 0 ∈ Region.ready .any (lateAt l n).toArray (Array.replicate l.length false) := by
    rw [mem_ready] at hrd' ⊢
    obtain ⟨g1, o, go, gall⟩ := hrd'
    refine ⟨g1, o, by rw [late_get, go]; simp [hn0], gall⟩
  rw [hml] at H2
  have H3 := H2.2 0 (by rw [← hml]; exact hr0)
  have H4 : wpAny P .any (lateAt l n).toArray Q m ((Array.replicate (m + 1) false).setIfInBounds 0 true) (a.put o0.dst (a.eval (.tmp s))) { w with drawn := w.drawn + 1 } := by
    have h3 := late_wpOp H3
    unfold wpOp at h3
    simp only [h0] at h3
    have hw : Region.wanted o0 (yielded l.toArray a.tmps) = true := by simp [Region.wanted, hgd]
    rw [if_pos hw] at h3
    unfold Oper.wp Oper.asks at h3
    rw [BigFrame.run_move (.tmp s) hop] at h3
    rcases h3 with h3 | ⟨h3, _⟩
    · exact h3
    · obtain ⟨h5, _⟩ := h3
      refine absurd h5 ?_
      simp [execOp, hop, Sem.runT]
      exact fun hh => Array.not_mem_empty _ hh
  rw [hml]
  refine wpAny_first h0 (Region.noSelect_spec hsel0) (fun c a w => hQ c a w _) m _ a _ (fun j oj hj hne hun hno => Region.free_spec h0 (by rw [← hml]; exact hfree) j oj hj hne hun hno) (by rw [← hml]; exact hrd') hy ?_
  exact late_any m _ _ _ (by simp) H4
end
end Go.Proofs.YtkbppaddghfgpaaDoor
