/- Pairs sorted by name, each name once: plain facts, no program in sight. -/
import Derived.Test.YtojlpfakdodnfaaGreatDoorChecked
set_option linter.unusedVariables false
namespace Go.Proofs.YtojlpfakdodnfaaGreatDoor

abbrev Ent := ByteArray × ByteArray
def bs (s : ByteArray) : List UInt8 := s.data.toList
theorem bs_inj {s t : ByteArray} (h : bs s = bs t) : s = t := by
  cases s; cases t
  unfold bs at h
  congr 1
  exact Array.toList_inj.1 h
theorem lt_irr (a : List UInt8) : ¬ a < a := List.lt_irrefl a
theorem lt_tr {a b c : List UInt8} (h : a < b) (k : b < c) : a < c := List.lt_trans h k
theorem lt_tri (a b : List UInt8) : a < b ∨ a = b ∨ b < a := by
  by_cases h : a < b
  · exact .inl h
  · by_cases k : b < a
    · exact .inr (.inr k)
    · exact .inr (.inl (List.le_antisymm (List.not_lt.1 k) (List.not_lt.1 h)))
theorem lt_as {a b : List UInt8} (h : a < b) : ¬ b < a := fun k => lt_irr a (lt_tr h k)
theorem lt_ne {a b : List UInt8} (h : a < b) : a ≠ b := fun e => lt_irr a (by rw [← e] at h; exact h)

def insP (p : Ent) : List Ent → List Ent
  | [] => [p]
  | q :: r => if bs q.1 < bs p.1 then q :: insP p r else if q.1 = p.1 then (q.1, p.2) :: r else p :: q :: r
def fit (l : List Ent) : List Ent := l.foldl (fun o p => insP p o) []
def look (k : ByteArray) : List Ent → Option ByteArray
  | [] => none
  | q :: r => if q.1 = k then some q.2 else look k r
/-- Strictly rising names. -/
def Srt (l : List Ent) : Prop := l.Pairwise fun p q => bs p.1 < bs q.1

theorem ins_key (p : Ent) : ∀ (o : List Ent) (x : Ent), x ∈ insP p o → x.1 = p.1 ∨ ∃ y ∈ o, y.1 = x.1
  | [], x, h => by
    simp [insP] at h
    rw [h]; exact .inl rfl
  | q :: r, x, h => by
    unfold insP at h
    split at h
    · rcases List.mem_cons.1 h with rfl | h
      · exact .inr ⟨_, List.mem_cons_self .., rfl⟩
      · rcases ins_key p r x h with h | ⟨y, hy, e⟩
        · exact .inl h
        · exact .inr ⟨y, List.mem_cons_of_mem _ hy, e⟩
    · split at h
      · rcases List.mem_cons.1 h with rfl | h
        · exact .inr ⟨q, List.mem_cons_self .., rfl⟩
        · exact .inr ⟨x, List.mem_cons_of_mem _ h, rfl⟩
      · rcases List.mem_cons.1 h with rfl | h
        · exact .inl rfl
        · exact .inr ⟨x, h, rfl⟩
theorem ins_srt (p : Ent) : ∀ (o : List Ent), Srt o → Srt (insP p o)
  | [], _ => by simp [insP, Srt]
  | q :: r, h => by
    have hr : Srt r := (List.pairwise_cons.1 h).2
    have hq := (List.pairwise_cons.1 h).1
    unfold insP
    split
    · rename_i hlt
      refine List.pairwise_cons.2 ⟨fun x hx => ?_, ins_srt p r hr⟩
      rcases ins_key p r x hx with e | ⟨y, hy, e⟩
      · rw [e]; exact hlt
      · rw [← e]; exact hq y hy
    · split
      · exact List.pairwise_cons.2 ⟨hq, hr⟩
      · rename_i h1 h2
        have hlt : bs p.1 < bs q.1 := by
          rcases lt_tri (bs q.1) (bs p.1) with h | h | h
          · exact absurd h h1
          · exact absurd (bs_inj h) h2
          · exact h
        refine List.pairwise_cons.2 ⟨fun x hx => ?_, h⟩
        rcases List.mem_cons.1 hx with rfl | hx
        · exact hlt
        · exact lt_tr hlt (hq x hx)
theorem look_none {k : ByteArray} : ∀ {l : List Ent}, (∀ x ∈ l, x.1 ≠ k) → look k l = none
  | [], _ => rfl
  | q :: r, h => by
    unfold look
    rw [if_neg (h q (List.mem_cons_self ..))]
    exact look_none fun x hx => h x (List.mem_cons_of_mem _ hx)
theorem look_ins (p : Ent) (k : ByteArray) : ∀ (o : List Ent), Srt o → look k (insP p o) = if p.1 = k then some p.2 else look k o
  | [], _ => rfl
  | q :: r, h => by
    have hr : Srt r := (List.pairwise_cons.1 h).2
    have hq := (List.pairwise_cons.1 h).1
    unfold insP
    split
    · rename_i hlt
      show (if q.1 = k then some q.2 else look k (insP p r)) = if p.1 = k then some p.2 else if q.1 = k then some q.2 else look k r
      rw [look_ins p k r hr]
      by_cases h1 : q.1 = k
      · rw [if_pos h1, if_pos h1, if_neg]
        intro h2
        rw [h1, h2] at hlt
        exact lt_irr _ hlt
      · rw [if_neg h1, if_neg h1]
    · split
      · rename_i h1 h2
        show (if q.1 = k then some p.2 else look k r) = if p.1 = k then some p.2 else if q.1 = k then some q.2 else look k r
        rw [h2]
        by_cases h3 : p.1 = k
        · rw [if_pos h3, if_pos h3]
        · rw [if_neg h3, if_neg h3, if_neg h3]
      · rfl
theorem fold_srt : ∀ (l o : List Ent), Srt o → Srt (l.foldl (fun o p => insP p o) o)
  | [], _, h => h
  | p :: l, o, h => fold_srt l _ (ins_srt p o h)
theorem fit_srt (l : List Ent) : Srt (fit l) := fold_srt l [] List.Pairwise.nil
theorem fit_snoc (l : List Ent) (p : Ent) : fit (l ++ [p]) = insP p (fit l) := by unfold fit; rw [List.foldl_append]; rfl
theorem look_snoc (l : List Ent) (p : Ent) (k : ByteArray) : look k (fit (l ++ [p])) = if p.1 = k then some p.2 else look k (fit l) := by rw [fit_snoc, look_ins p k _ (fit_srt l)]
theorem look_mem {k v : ByteArray} : ∀ {l : List Ent}, look k l = some v → (k, v) ∈ l
  | [], h => by cases h
  | q :: r, h => by
    unfold look at h
    split at h
    · rename_i h1
      rw [← h1, ← Option.some.inj h]
      exact List.mem_cons_self ..
    · exact List.mem_cons_of_mem _ (look_mem h)
/-- No name twice. -/
def Once (l : List Ent) : Prop := l.Pairwise fun p q => p.1 ≠ q.1
theorem Srt.once {l : List Ent} (h : Srt l) : Once l := by
  unfold Once
  refine List.Pairwise.imp ?_ h
  intro p q hlt e
  exact lt_ne hlt (by rw [e])
theorem mem_look {k v : ByteArray} : ∀ {l : List Ent}, Once l → (k, v) ∈ l → look k l = some v
  | [], _, h => by cases h
  | q :: r, ho, h => by
    unfold look
    rcases List.mem_cons.1 h with h | h
    · rw [← h]; exact if_pos rfl
    · rw [if_neg ((List.pairwise_cons.1 ho).1 _ h)]
      exact mem_look (List.pairwise_cons.1 ho).2 h
theorem once_mem {l l' : List Ent} (h : Once l) (h' : Once l') (hl : ∀ k, look k l = look k l') (x : Ent) : x ∈ l ↔ x ∈ l' :=
  ⟨fun hx => look_mem (by rw [← hl]; exact mem_look h hx), fun hx => look_mem (by rw [hl]; exact mem_look h' hx)⟩
theorem once_nodup {l : List Ent} (h : Once l) : l.Nodup := by
  unfold List.Nodup
  refine List.Pairwise.imp ?_ h
  intro p q hn e
  exact hn (by rw [e])
theorem srt_ext : ∀ {l l' : List Ent}, Srt l → Srt l' → (∀ x, x ∈ l ↔ x ∈ l') → l = l'
  | [], [], _, _, _ => rfl
  | [], q :: r, _, _, h => absurd ((h q).2 (List.mem_cons_self ..)) List.not_mem_nil
  | p :: l, [], _, _, h => absurd ((h p).1 (List.mem_cons_self ..)) List.not_mem_nil
  | p :: l, q :: r, hp, hq, h => by
    have e : p = q := by
      rcases List.mem_cons.1 ((h p).1 (List.mem_cons_self ..)) with h1 | h1
      · exact h1
      · rcases List.mem_cons.1 ((h q).2 (List.mem_cons_self ..)) with h2 | h2
        · exact h2.symm
        · exact absurd ((List.pairwise_cons.1 hp).1 q h2) (lt_as ((List.pairwise_cons.1 hq).1 p h1))
    subst e
    congr 1
    refine srt_ext (List.pairwise_cons.1 hp).2 (List.pairwise_cons.1 hq).2 fun x => ⟨fun hx => ?_, fun hx => ?_⟩
    · rcases List.mem_cons.1 ((h x).1 (List.mem_cons_of_mem _ hx)) with h1 | h1
      · subst h1; exact absurd ((List.pairwise_cons.1 hp).1 x hx) (lt_irr _)
      · exact h1
    · rcases List.mem_cons.1 ((h x).2 (List.mem_cons_of_mem _ hx)) with h1 | h1
      · subst h1; exact absurd ((List.pairwise_cons.1 hq).1 x hx) (lt_irr _)
      · exact h1
theorem srt_look {l l' : List Ent} (h : Srt l) (h' : Srt l') (hl : ∀ k, look k l = look k l') : l = l' := srt_ext h h' (once_mem h.once h'.once hl)
theorem ins_len (p : Ent) : ∀ (o : List Ent), (insP p o).length ≤ o.length + 1
  | [] => Nat.le_refl _
  | q :: r => by
    unfold insP
    split
    · have := ins_len p r
      simp only [List.length_cons]; omega
    · split
      · simp only [List.length_cons]; omega
      · simp only [List.length_cons]; omega
theorem fold_len : ∀ (l o : List Ent), (l.foldl (fun o p => insP p o) o).length ≤ o.length + l.length
  | [], o => Nat.le_refl _
  | p :: l, o => by
    have h1 := fold_len l (insP p o)
    have h2 := ins_len p o
    rw [List.foldl_cons, List.length_cons]; omega
theorem fit_len (l : List Ent) : (fit l).length ≤ l.length := by
  have := fold_len l []
  rw [List.length_nil, Nat.zero_add] at this
  exact this
theorem fit_look_mem {l : List Ent} {x : Ent} : x ∈ fit l → x ∈ l := by
  have key : ∀ (l o : List Ent) (S : List Ent), (∀ x ∈ o, x ∈ S) → (∀ x ∈ l, x ∈ S) → ∀ x ∈ l.foldl (fun o p => insP p o) o, x ∈ S := by
    intro l
    induction l with
    | nil => intro o S ho _ x hx; exact ho x hx
    | cons p l ih =>
      intro o S ho hl x hx
      refine ih (insP p o) S (fun y hy => ?_) (fun y hy => hl y (List.mem_cons_of_mem _ hy)) x hx
      have : ∀ (o : List Ent), (∀ x ∈ o, x ∈ S) → ∀ y ∈ insP p o, y ∈ S := by
        intro o
        induction o with
        | nil => intro _ y hy; simp [insP] at hy; rw [hy]; exact hl p (List.mem_cons_self ..)
        | cons q r ih2 =>
          intro ho y hy
          unfold insP at hy
          split at hy
          · rcases List.mem_cons.1 hy with rfl | hy
            · exact ho _ (List.mem_cons_self ..)
            · exact ih2 (fun x hx => ho x (List.mem_cons_of_mem _ hx)) y hy
          · split at hy
            · rename_i h2
              rcases List.mem_cons.1 hy with rfl | hy
              · rw [h2]; exact hl p (List.mem_cons_self ..)
              · exact ho y (List.mem_cons_of_mem _ hy)
            · rcases List.mem_cons.1 hy with rfl | hy
              · exact hl _ (List.mem_cons_self ..)
              · exact ho y hy
      exact this o ho y hy
  exact key l [] l (fun x hx => by cases hx) (fun x hx => hx) x
end Go.Proofs.YtojlpfakdodnfaaGreatDoor
