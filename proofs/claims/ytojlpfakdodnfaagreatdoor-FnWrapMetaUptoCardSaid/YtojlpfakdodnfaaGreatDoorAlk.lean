/- Two plain descriptors have one dimension if and only if they are alike: plain facts. -/
import Derived.Test.YtojlpfakdodnfaaGreatDoorSay
import Derived.Test.YtojlpfakdodnfaaGreatDoorRng
set_option linter.unusedVariables false
set_option linter.unusedSimpArgs false
namespace Go.Proofs.YtojlpfakdodnfaaGreatDoor
open Go.Sort

theorem split255 : ∀ {x y r s : List UInt8}, (255 : UInt8) ∉ x → (255 : UInt8) ∉ y → x ++ 255 :: r = y ++ 255 :: s → x = y ∧ r = s
  | [], [], r, s, _, _, h => ⟨rfl, by simpa using h⟩
  | [], b :: y, r, s, _, hy, h => by
    simp only [List.nil_append, List.cons_append, List.cons.injEq] at h
    exact absurd (h.1 ▸ List.mem_cons_self ..) hy
  | a :: x, [], r, s, hx, _, h => by
    simp only [List.nil_append, List.cons_append, List.cons.injEq] at h
    exact absurd (h.1 ▸ List.mem_cons_self ..) hx
  | a :: x, b :: y, r, s, hx, hy, h => by
    simp only [List.cons_append, List.cons.injEq] at h
    obtain ⟨h1, h2⟩ := split255 (fun hm => hx (List.mem_cons_of_mem _ hm)) (fun hm => hy (List.mem_cons_of_mem _ hm)) h.2
    exact ⟨by rw [h.1, h1], h2⟩
theorem sepT_cons (x : List UInt8) (xs : List (List UInt8)) : sepT (x :: xs) = x ++ 255 :: sepT xs := by unfold sepT; simp
theorem sepT_inj : ∀ {xs ys : List (List UInt8)}, (∀ x ∈ xs, (255 : UInt8) ∉ x) → (∀ y ∈ ys, (255 : UInt8) ∉ y) → sepT xs = sepT ys → xs = ys
  | [], [], _, _, _ => rfl
  | [], y :: ys, _, _, h => by rw [sepT_cons] at h; exact absurd (congrArg List.length h) (by simp [sepT])
  | x :: xs, [], _, _, h => by rw [sepT_cons] at h; exact absurd (congrArg List.length h) (by simp [sepT])
  | x :: xs, y :: ys, hx, hy, h => by
    rw [sepT_cons, sepT_cons] at h
    obtain ⟨h1, h2⟩ := split255 (hx x (List.mem_cons_self ..)) (hy y (List.mem_cons_self ..)) h
    rw [h1, sepT_inj (fun z hz => hx z (List.mem_cons_of_mem _ hz)) (fun z hz => hy z (List.mem_cons_of_mem _ hz)) h2]
theorem nodup_perm : ∀ {xs ys : List ByteArray}, xs.Nodup → (∀ x ∈ xs, x ∈ ys) → ys.length = xs.length → xs.Perm ys
  | [], ys, _, _, hl => by
    have : ys = [] := List.eq_nil_of_length_eq_zero hl
    rw [this]
  | x :: xs, ys, hn, hs, hl => by
    have hx : x ∈ ys := hs x (List.mem_cons_self ..)
    obtain ⟨s, t, rfl⟩ := List.append_of_mem hx
    have hn2 := List.nodup_cons.1 hn
    have hp : (s ++ x :: t).Perm (x :: (s ++ t)) := List.perm_middle
    refine (List.Perm.cons x (nodup_perm (ys := s ++ t) hn2.2 (fun y hy => ?_) ?_)).trans hp.symm
    · have h1 := hs y (List.mem_cons_of_mem _ hy)
      have h2 : y ≠ x := fun e => hn2.1 (e ▸ hy)
      rcases List.mem_append.1 h1 with h | h
      · exact List.mem_append_left _ h
      · rcases List.mem_cons.1 h with h | h
        · exact absurd h h2
        · exact List.mem_append_right _ h
    · simp only [List.length_append, List.length_cons] at hl ⊢
      omega
def alikeB (A B : Dsc) : Bool := decide (A.help = B.help) && decide (A.unit = B.unit) && decide (A.vars.length = B.vars.length) && decide (A.keys.length = B.keys.length) && A.vars.all (fun x => inB x B.vars) && decide (A.keys.map bs = B.keys.map bs)
theorem no255 {s : ByteArray} (h : ∀ b ∈ s.data.toList, b.toNat < 128) : (255 : UInt8) ∉ bs s := fun hm => by
  have := h _ hm
  simp at this
theorem prn_lt {s : ByteArray} (h : prnS s = true) : ∀ b ∈ s.data.toList, b.toNat < 128 := fun b hb => by
  have := List.all_eq_true.1 h b hb
  unfold prnU at this
  have := of_decide_eq_true (Bool.and_eq_true_iff.1 this).2
  omega
theorem bs_empty {s : ByteArray} (h : s.size = 0) : bs s = [] := by
  obtain ⟨⟨l⟩⟩ := s
  match l, h with
  | [], _ => rfl
theorem empty_eq {s t : ByteArray} (h : s.size = 0) (k : t.size = 0) : s = t := bs_inj ((bs_empty h).trans (bs_empty k).symm)
theorem plain_head {s : ByteArray} (h : plain s = true) : (bs s).head? ≠ some 36 := by
  unfold plain at h
  obtain ⟨h1, _⟩ := Bool.and_eq_true_iff.1 h
  obtain ⟨⟨l⟩⟩ := s
  cases l with
  | nil => simp [bs]
  | cons c r =>
    obtain ⟨hc, _⟩ := Bool.and_eq_true_iff.1 h1
    intro e
    simp [bs] at e
    subst e
    revert hc
    decide
def isVar (l : List UInt8) : Bool := l.head? == some 36
theorem filt_keys {l : List ByteArray} (h : ∀ x ∈ l, plain x = true) : (l.map bs).filter isVar = [] ∧ (l.map bs).filter (fun x => !isVar x) = l.map bs := by
  have h1 : ∀ x ∈ l.map bs, isVar x = false := fun x hx => by
    obtain ⟨y, hy, rfl⟩ := List.mem_map.1 hx
    exact beq_eq_false_iff_ne.2 (plain_head (h y hy))
  refine ⟨List.filter_eq_nil_iff.2 fun x hx => by rw [h1 x hx]; simp, List.filter_eq_self.2 fun x hx => by rw [h1 x hx]; rfl⟩
theorem filt_vars (l : List ByteArray) : (l.map fun v => 36 :: bs v).filter isVar = (l.map fun v => 36 :: bs v) ∧ (l.map fun v => 36 :: bs v).filter (fun x => !isVar x) = [] := by
  have h1 : ∀ x ∈ l.map fun v => (36 : UInt8) :: bs v, isVar x = true := fun x hx => by
    obtain ⟨y, hy, rfl⟩ := List.mem_map.1 hx
    rfl
  refine ⟨List.filter_eq_self.2 fun x hx => h1 x hx, List.filter_eq_nil_iff.2 fun x hx => by rw [h1 x hx]; simp⟩
theorem SayOk.plainKeys {D : Dsc} (h : SayOk D) : (∀ x ∈ D.keys, plain x = true) ∧ ∀ x ∈ D.vars, plain x = true :=
  ⟨fun x hx => nameOk_plain (List.all_eq_true.1 h.names x (List.mem_append_right _ hx)), fun x hx => nameOk_plain (List.all_eq_true.1 h.names x (List.mem_append_left _ hx))⟩
theorem SayOk.no255 {D : Dsc} (h : SayOk D) : ∀ x ∈ bs D.help :: bs D.unit :: nameL D, (255 : UInt8) ∉ x := by
  intro x hx
  rcases List.mem_cons.1 hx with rfl | hx
  · exact YtojlpfakdodnfaaGreatDoor.no255 (prn_lt h.help)
  · rcases List.mem_cons.1 hx with rfl | hx
    · rw [bs_empty h.unit]; simp
    · have hx2 : x ∈ D.keys.map bs ++ D.vars.map fun v => 36 :: bs v := by
        unfold nameL at hx
        exact List.mem_mergeSort.1 hx
      rcases List.mem_append.1 hx2 with hx | hx
      · obtain ⟨y, hy, rfl⟩ := List.mem_map.1 hx
        exact YtojlpfakdodnfaaGreatDoor.no255 (plain_parts (h.plainKeys.1 y hy)).2.1
      · obtain ⟨y, hy, rfl⟩ := List.mem_map.1 hx
        intro hm
        rcases List.mem_cons.1 hm with e | hm
        · exact absurd e (by decide)
        · exact YtojlpfakdodnfaaGreatDoor.no255 (plain_parts (h.plainKeys.2 y hy)).2.1 hm
theorem map_bs_inj : ∀ {xs ys : List ByteArray}, xs.map bs = ys.map bs → xs = ys
  | [], [], _ => rfl
  | [], y :: ys, h => by simp at h
  | x :: xs, [], h => by simp at h
  | x :: xs, y :: ys, h => by
    simp only [List.map_cons, List.cons.injEq] at h
    rw [bs_inj h.1, map_bs_inj h.2]
theorem alike_iff {A B : Dsc} (hA : SayOk A) (hB : SayOk B) : dimT A = dimT B ↔ alikeB A B = true := by
  constructor
  · intro h
    have hl := sepT_inj hA.no255 hB.no255 h
    simp only [List.cons.injEq] at hl
    obtain ⟨h1, h2, h3⟩ := hl
    have hp : (A.keys.map bs ++ A.vars.map fun v => 36 :: bs v).Perm (B.keys.map bs ++ B.vars.map fun v => 36 :: bs v) :=
      (List.mergeSort_perm _ leB).symm.trans (by have h4 : (A.keys.map bs ++ A.vars.map fun v => 36 :: bs v).mergeSort leB = (B.keys.map bs ++ B.vars.map fun v => 36 :: bs v).mergeSort leB := h3; rw [h4]; exact List.mergeSort_perm _ leB)
    have hv := hp.filter isVar
    have hk := hp.filter (fun x => !isVar x)
    rw [List.filter_append, List.filter_append, (filt_keys hA.plainKeys.1).1, (filt_keys hB.plainKeys.1).1, (filt_vars A.vars).1, (filt_vars B.vars).1, List.nil_append, List.nil_append] at hv
    rw [List.filter_append, List.filter_append, (filt_keys hA.plainKeys.1).2, (filt_keys hB.plainKeys.1).2, (filt_vars A.vars).2, (filt_vars B.vars).2, List.append_nil, List.append_nil] at hk
    have hke : A.keys.map bs = B.keys.map bs := (keys_sort A.cons).symm.trans ((mergeSort_of_perm hk).trans (keys_sort B.cons))
    have hlv : A.vars.length = B.vars.length := by have := hv.length_eq; simpa using this
    have hlk : A.keys.length = B.keys.length := by have := congrArg List.length hke; simpa using this
    have hsub : A.vars.all (fun x => inB x B.vars) = true := List.all_eq_true.2 fun x hx => by
      have : (36 :: bs x) ∈ B.vars.map fun v => 36 :: bs v := hv.mem_iff.1 (List.mem_map.2 ⟨x, hx, rfl⟩)
      obtain ⟨y, hy, e⟩ := List.mem_map.1 this
      injection e with _ e
      exact inB_true ((bs_inj e) ▸ hy)
    unfold alikeB
    rw [decide_eq_true (bs_inj h1), decide_eq_true (bs_inj h2), decide_eq_true hlv, decide_eq_true hlk, hsub, decide_eq_true hke]
    rfl
  · intro h
    unfold alikeB at h
    simp only [Bool.and_eq_true, decide_eq_true_eq] at h
    obtain ⟨⟨⟨⟨⟨h1, h2⟩, h3⟩, h4⟩, h5⟩, h6⟩ := h
    have hn : A.vars.Nodup := (List.nodup_append.1 hA.nodup).1
    have hpv : A.vars.Perm B.vars := nodup_perm hn (fun x hx => inB_iff.1 (List.all_eq_true.1 h5 x hx)) h3.symm
    have hp : (A.keys.map bs ++ A.vars.map fun v => 36 :: bs v).Perm (B.keys.map bs ++ B.vars.map fun v => 36 :: bs v) := by rw [h6]; exact (hpv.map _).append_left _
    have hnm : nameL A = nameL B := mergeSort_of_perm hp
    unfold dimT
    rw [h1, h2, hnm]
end Go.Proofs.YtojlpfakdodnfaaGreatDoor
