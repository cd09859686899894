/- Wrapped descriptors: plain facts. -/
import Derived.Test.YtojlpfakdodnfaaGreatDoorLp
import Derived.Test.YtojlpfakdodnfaaGreatDoorAlk
set_option linter.unusedVariables false
set_option linter.unusedSimpArgs false
namespace Go.Proofs.YtojlpfakdodnfaaGreatDoor
open Go.RowKit

/-- A descriptor with another name and more constant labels. -/
def wrapD (D : Dsc) (nm : ByteArray) (L : List Ent) : Dsc := ⟨nm, D.help, D.unit, D.vars, fit D.cons ++ L⟩
def wrapFine (D : Dsc) (L : List Ent) : Bool := (fit L).all fun x => !inB x.1 D.vars && !inB x.1 D.keys
def clash (D : Dsc) (L : List Ent) : Bool := (fit L).any fun x => inB x.1 D.keys
theorem srt_nodup {l : List Ent} (h : Srt l) : (l.map (·.1)).Nodup := by
  unfold List.Nodup
  rw [List.pairwise_map]
  exact h.once
theorem keysD_nodup (D : Dsc) : D.keys.Nodup := srt_nodup (fit_srt _)
theorem wrap_nodup {D : Dsc} {O : List Ent} (hd : ∀ x ∈ O, x.1 ∉ D.keys) (hO : (O.map (·.1)).Nodup) : ((fit D.cons ++ O).map (·.1)).Nodup := by
  rw [List.map_append]
  refine List.nodup_append.2 ⟨srt_nodup (fit_srt _), hO, fun a ha b hb e => ?_⟩
  obtain ⟨x, hx, rfl⟩ := List.mem_map.1 hb
  exact hd x hx (e ▸ ha)
theorem clash_none {D : Dsc} {L : List Ent} (h : clash D L = false) : ∀ x ∈ fit L, x.1 ∉ D.keys := fun x hx hk => by
  have := List.any_eq_false.1 h x hx
  rw [inB_true hk] at this
  exact this rfl
/-- Whatever the order in which the labels come up. -/
theorem wrap_fit {D : Dsc} {L O : List Ent} (hd : clash D L = false) (hO : (O.map (·.1)).Nodup) (hm : ∀ x, x ∈ O ↔ x ∈ fit L) : fit (fit D.cons ++ O) = fit (fit D.cons ++ fit L) := by
  refine srt_ext (fit_srt _) (fit_srt _) fun x => ?_
  rw [fit_mem_once (once_of_keys (wrap_nodup (fun y hy => clash_none hd y ((hm y).1 hy)) hO)), fit_mem_once (once_of_keys (wrap_nodup (clash_none hd) (srt_nodup (fit_srt L)))), List.mem_append, List.mem_append, hm]
theorem fine_clash {D : Dsc} {L : List Ent} (h : wrapFine D L = true) : clash D L = false := by
  refine List.any_eq_false.2 fun x hx => ?_
  have := List.all_eq_true.1 h x hx
  cases hk : inB x.1 D.keys with
  | false => simp
  | true => rw [hk] at this; simp at this
theorem mem_wrap {D : Dsc} {L : List Ent} {x : Ent} (h : x ∈ fit (fit D.cons ++ fit L)) : x ∈ fit D.cons ∨ x ∈ fit L := List.mem_append.1 (fit_look_mem h)
theorem wrap_ok {D : Dsc} {nm : ByteArray} {L : List Ent} (hS : SayOk D) (hnm : plain nm = true) (hL : ∀ x ∈ L, nameOk x.1 = true ∧ prnS x.2 = true) (hf : wrapFine D L = true) : descOk (wrapD D nm (fit L)) = true := by
  have hk := hS.plainKeys
  have h1 : (fit (wrapD D nm (fit L)).cons).all (fun p => okLbl p.1) = true := List.all_eq_true.2 fun x hx => by
    rcases mem_wrap hx with h | h
    · exact plain_okLbl (hk.1 _ (List.mem_map.2 ⟨x, h, rfl⟩))
    · exact plain_okLbl (nameOk_plain (hL x (fit_look_mem h)).1)
  have h2 : (fit (wrapD D nm (fit L)).cons).all (fun p => vU p.2) = true := List.all_eq_true.2 fun x hx => by
    rcases mem_wrap hx with h | h
    · exact vU_prn (List.all_eq_true.1 hS.vals x h)
    · exact vU_prn (hL x (fit_look_mem h)).2
  have h3 : (wrapD D nm (fit L)).vars.all okLbl = true := List.all_eq_true.2 fun x hx => plain_okLbl (hk.2 x hx)
  have hn := hS.nodupK
  have h4 : ((wrapD D nm (fit L)).keys ++ (wrapD D nm (fit L)).vars).Nodup := by
    refine List.nodup_append.2 ⟨keysD_nodup _, (List.nodup_append.1 hn).2.1, fun a ha b hb e => ?_⟩
    subst e
    obtain ⟨x, hx, rfl⟩ := List.mem_map.1 ha
    rcases mem_wrap hx with h | h
    · exact (List.nodup_append.1 hn).2.2 _ (List.mem_map.2 ⟨x, h, rfl⟩) _ hb rfl
    · have := List.all_eq_true.1 hf x h
      rw [inB_true (show x.1 ∈ D.vars from hb)] at this
      simp at this
  unfold descOk
  rw [show (wrapD D nm (fit L)).name = nm from rfl, plain_okName hnm, h1, h2, h3, decide_eq_true h4]
  rfl
theorem wrap_bad {D : Dsc} {nm : ByteArray} {L : List Ent} (hd : clash D L = false) (hf : wrapFine D L = false) : descOk (wrapD D nm (fit L)) = false := by
  have h4 : ¬ ((wrapD D nm (fit L)).keys ++ (wrapD D nm (fit L)).vars).Nodup := fun hn => by
    obtain ⟨x, hx, hh⟩ := List.all_eq_false.1 hf
    have hk : inB x.1 D.keys = false := inB_false (clash_none hd x hx)
    rw [hk] at hh
    have hv : x.1 ∈ D.vars := by
      cases hb : inB x.1 D.vars with
      | true => exact inB_iff.1 hb
      | false => rw [hb] at hh; simp at hh
    obtain ⟨y, hy, e⟩ := key_fit (l := fit D.cons ++ fit L) (List.mem_append_right _ hx)
    exact (List.nodup_append.1 hn).2.2 x.1 (List.mem_map.2 ⟨y, hy, e⟩) x.1 hv rfl
  unfold descOk
  rw [decide_eq_false h4, Bool.and_false]
theorem descOk_congr {D : Dsc} {nm : ByteArray} {A B : List Ent} (h : fit (fit D.cons ++ A) = fit (fit D.cons ++ B)) : descOk (wrapD D nm A) = descOk (wrapD D nm B) := by
  unfold descOk Dsc.keys wrapD
  simp only [h]
theorem good_congr {D : Dsc} {nm : ByteArray} {A B : List Ent} {w : World} {P : Nat} {CQ : Nat → Value → Value → Prop} (h : fit (fit D.cons ++ A) = fit (fit D.cons ++ B)) (hg : Good w P CQ (wrapD D nm A)) : Good w P CQ (wrapD D nm B) := by
  unfold Good idT dimT nameL Dsc.keys wrapD at *
  simp only [h] at hg
  exact hg
theorem keys_raw {D : Dsc} {k : ByteArray} : k ∈ D.keys ↔ ∃ y ∈ D.cons, y.1 = k := by
  refine ⟨fun h => ?_, fun ⟨y, hy, e⟩ => ?_⟩
  · obtain ⟨y, hy, e⟩ := List.mem_map.1 h
    exact ⟨y, fit_look_mem hy, e⟩
  · obtain ⟨z, hz, e2⟩ := key_fit hy
    exact List.mem_map.2 ⟨z, hz, e2.trans e⟩
end Go.Proofs.YtojlpfakdodnfaaGreatDoor
