/- The labels of a metric: plain facts. -/
import Derived.Test.YtojlpfakdodnfaaGreatDoorPair
import Derived.Test.YtojlpfakdodnfaaGreatDoorDsc3
import Derived.Test.YtojlpfakdodnfaaGreatDoorSay
set_option linter.unusedVariables false
set_option linter.unusedSimpArgs false
namespace Go.Proofs.YtojlpfakdodnfaaGreatDoor
open Go.RowKit

/-- The labels of a metric, as the reference has them. -/
def labelsOf (D : Dsc) (vals : List ByteArray) : List Ent := fit (fit D.cons ++ D.vars.zip vals)
theorem fit_mem_once {l : List Ent} (h : Once l) (x : Ent) : x ∈ fit l ↔ x ∈ l := by
  refine ⟨fit_look_mem, fun hx => ?_⟩
  obtain ⟨y, hy, he⟩ := key_fit hx
  have h1 := mem_look h (show (y.1, y.2) ∈ l from fit_look_mem hy)
  have h2 := mem_look h (show (x.1, x.2) ∈ l from hx)
  rw [he] at h1
  have h3 : y.2 = x.2 := Option.some.inj (h1.symm.trans h2)
  have h4 : y = x := Prod.ext he h3
  exact h4 ▸ hy
theorem once_of_keys {l : List Ent} (h : (l.map (·.1)).Nodup) : Once l := by
  unfold List.Nodup at h
  rw [List.pairwise_map] at h
  exact h
theorem keys_zip {D : Dsc} {vals : List ByteArray} (hl : vals.length = D.vars.length) : (D.vars.zip vals).map (·.1) = D.vars := List.map_fst_zip (by omega)
theorem labels_once {D : Dsc} {vals : List ByteArray} (hn : (D.keys ++ D.vars).Nodup) (hl : vals.length = D.vars.length) : ((fit D.cons ++ D.vars.zip vals).map (·.1)).Nodup := by
  rw [List.map_append, keys_zip hl]
  exact hn
theorem labels_sorted {D : Dsc} {vals : List ByteArray} {zs' : List Ent} (hp : zs'.Perm (D.vars.zip vals ++ fit D.cons)) (hs : zs'.Pairwise fun a b => ¬ bs b.1 < bs a.1) (hn : (D.keys ++ D.vars).Nodup) (hl : vals.length = D.vars.length) : zs' = labelsOf D vals := by
  have h1 := labels_once hn hl
  have hc : (D.vars.zip vals ++ fit D.cons).Perm (fit D.cons ++ D.vars.zip vals) := List.perm_append_comm
  exact sorted_fit hp hs ((hc.map _).nodup_iff.2 h1) fun x => by rw [fit_mem_once (once_of_keys h1), hc.mem_iff]
theorem labels_novars {D : Dsc} {vals : List ByteArray} (h : D.vars = []) : labelsOf D vals = fit D.cons := by
  unfold labelsOf
  rw [h, List.zip_nil_left, List.append_nil]
  exact srt_ext (fit_srt _) (fit_srt _) fun x => fit_mem_once (fit_srt _).once x
theorem SayOk.nodupK {D : Dsc} (h : SayOk D) : (D.keys ++ D.vars).Nodup := by
  have h1 := h.desc
  unfold descOk at h1
  exact of_decide_eq_true (Bool.and_eq_true_iff.1 h1).2
theorem labels_len {D : Dsc} {vals : List ByteArray} (hl : vals.length = D.vars.length) : (labelsOf D vals).length ≤ D.cons.length + D.vars.length := by
  refine Nat.le_trans (fit_len _) ?_
  rw [List.length_append, List.length_zip]
  have := fit_len D.cons
  omega
end Go.Proofs.YtojlpfakdodnfaaGreatDoor
