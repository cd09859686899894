/- A range over the map of labels; a set of names. -/
import Derived.Test.YtojlpfakdodnfaaGreatDoorLab
import Derived.Maps.OwnSet
import Derived.Sort.KeysCollected
set_option linter.unusedVariables false
set_option linter.unusedSimpArgs false
namespace Go.Proofs.YtojlpfakdodnfaaGreatDoor
open Go.RowKit Go.Maps Go.Sort

/-- A label has come up. -/
structure NextL (l : List Ent) (w w' : World) (b r n : Nat) (left : Lit → Bool) (cnt : Nat) (x t : ByteArray) : Prop where
  key : keyOf Tryz.prog 9 (.string x) = some (keyL x)
  sizeK : x.size ≤ maxLen
  here : left (keyL x) = true
  val : look x (fit l) = some t
  rng : ∃ cnt', w'.ranges Tryz.prog 9 strE b r n (mD l) (fun z => left z && !z.sameKey (keyL x)) cnt' ∧ cnt' < cnt
  grown : w.grownBy w' (some r)
  entry : (Instr.entry (.pointer (some ⟨r, 0, none⟩))).run Tryz.prog w' = .ok (.tuple #[.string x, .string t]) w'
  at' : ∀ zd, (mD l).atKey (keyL x) zd = litS t
theorem key_lit {s : ByteArray} {kl : Lit} (h : keyOf Tryz.prog 9 (.string s) = some kl) : kl = keyL s ∧ s.size ≤ maxLen := by
  obtain ⟨x, e1, e2, e3⟩ := Maps.keyOf_str Tryz.underlying9 h
  injection e1 with e1
  have hx : s.data.toList = x := by rw [e1]
  subst hx
  exact ⟨e2, by rw [Array.length_toList] at e3; exact e3⟩
theorem next_lab {ops : Array Oper} {rest : List Oper} {o : Oper} {a : Act} {Q : Exit → Act → World → Prop} (l : List Ent) (w : World) (b r n cnt : Nat) (left : Lit → Bool)
    (hg : o.guard = none) (it : Operand) (hop : o.op = Op.next it false) (hit : a.eval it = .pointer (some ⟨r, 0, none⟩)) (h : w.ranges Tryz.prog 9 strE b r n (mD l) left cnt)
    (hDone : (∀ kl, left kl = false) → wpList Tryz.prog ops Q rest (a.put o.dst (.tuple #[.bool false])) w)
    (hMore : ∀ (x t : ByteArray) (w' : World), NextL l w w' b r n left cnt x t → wpList Tryz.prog ops Q rest (a.put o.dst (.tuple #[.bool true, .string x, .string t])) w') :
    wpList Tryz.prog ops Q (o :: rest) a w := by
  refine wpList_next_ranges w hg it hop 9 lawS strE Value.string Value.string (fun key kl h => by obtain ⟨x, e, _⟩ := Maps.keyOf_str Tryz.underlying9 h; exact ⟨_, e⟩) (fun v y hv => ?_) b r n _ left cnt hit h (fun _ hl => hDone hl) (fun x c kl y w' cnt' hkey hlk hRy hat hrg hlt hgr hsz hen => ?_)
  · obtain ⟨s, rfl, _⟩ := plainElem_string_inv Tryz.underlying9 hv
    exact ⟨s, rfl⟩
  · obtain ⟨rfl, hks⟩ := key_lit hkey
    obtain ⟨s, hs, hy, _⟩ := plainElem_string_inv Tryz.underlying9 hRy
    injection hs with hs
    subst hs
    have h1 := hat .nil
    rw [hy, mD_at] at h1
    have hlook : look x (fit l) = some c := by
      cases hl : look x (fit l) with
      | none => rw [hl] at h1; cases h1
      | some t => rw [hl] at h1; rw [litS_inj h1]
    exact hMore x c w' ⟨hkey, hks, hlk, hlook, ⟨cnt', hrg, hlt⟩, hgr, hen, fun zd => by rw [hat zd, hy]; rfl⟩

theorem strLit (x : List UInt8) : WideAt.IsKeyLit (.string x) := by trivial
/-- A set of names. -/
def SetIs (D : DataW Unit) (ss : List (List UInt8)) (n : Nat) : Prop := Tidy D ∧ (∀ s, Maps.has D (.string s) = decide (s ∈ ss)) ∧ Maps.size D = n
theorem SetIs.nil : SetIs (.map []) [] 0 := ⟨tidy_empty, fun s => by simp [Maps.has], rfl⟩
theorem SetIs.put {D : DataW Unit} {ss : List (List UInt8)} {n : Nat} (h : SetIs D ss n) (x : List UInt8) (d : DataW Unit) : SetIs (D.put (.string x) d) (ss ++ [x]) (if x ∈ ss then n else n + 1) := by
  obtain ⟨h1, h2, h3⟩ := h
  refine ⟨h1.put (strLit x) d, fun s => ?_, ?_⟩
  · by_cases hs : s = x
    · subst hs
      rw [has_put_same h1.isMap (strLit s)]
      simp
    · rw [has_put_other (fun e => hs (by injection e)), h2 s]
      simp [hs]
  · rw [size_put h1, h2 x, h3]
    by_cases hx : x ∈ ss <;> simp [hx]
/-- How many names are different. -/
def diffs : List (List UInt8) → Nat
  | [] => 0
  | x :: r => diffs r + if x ∈ r then 0 else 1
theorem diffs_le : ∀ l : List (List UInt8), diffs l ≤ l.length
  | [] => Nat.le_refl _
  | x :: r => by
    have := diffs_le r
    unfold diffs
    rw [List.length_cons]
    split <;> omega
theorem diffs_eq : ∀ l : List (List UInt8), diffs l = l.length ↔ l.Nodup
  | [] => by simp [diffs]
  | x :: r => by
    have h1 := diffs_le r
    have h2 := diffs_eq r
    unfold diffs
    rw [List.length_cons, List.nodup_cons]
    by_cases hx : x ∈ r
    · simp [hx]; omega
    · simp [hx]; exact h2
theorem look_key {l : List Ent} {x : ByteArray} : (look x l).isSome = true ↔ x ∈ l.map (·.1) := by
  induction l with
  | nil => simp [look]
  | cons q r ih =>
    unfold look
    by_cases h : q.1 = x
    · simp [h]
    · rw [if_neg h, ih]
      simp [Ne.symm h]
theorem bs_of (l : List UInt8) : bs ⟨l.toArray⟩ = l := by simp [bs]
theorem keys_nodup (l : List Ent) : ((fit l).map (·.1)).Nodup := by
  have h := (fit_srt l).once
  unfold List.Nodup
  rw [List.pairwise_map]
  exact h
theorem keysB_nodup (l : List Ent) : (((fit l).map (·.1)).map bs).Nodup := by
  have h := keys_nodup l
  unfold List.Nodup at h ⊢
  rw [List.pairwise_map]
  exact h.imp fun hn e => hn (bs_inj e)
theorem coll_perm {l : List Ent} {left : Lit → Bool} {ss : List (List UInt8)} (h : Collected (mD l) left ss) (hl : ∀ kl, left kl = false) : ss.Perm (((fit l).map (·.1)).map bs) := by
  obtain ⟨h1, h2⟩ := h
  refine (List.perm_ext_iff_of_nodup h1 (keysB_nodup l)).2 fun x => ?_
  rw [h2 x, hl]
  have e : (.string x : Lit) = keyL ⟨x.toArray⟩ := by unfold keyL; simp
  rw [e, mD_has, look_key]
  simp only [List.mem_map]
  constructor
  · rintro ⟨⟨p, hp, e⟩, _⟩
    exact ⟨_, ⟨p, hp, rfl⟩, by rw [e, bs_of]⟩
  · rintro ⟨k, ⟨p, hp, rfl⟩, e⟩
    exact ⟨⟨p, hp, bs_inj (e.trans (bs_of x).symm)⟩, trivial⟩
theorem mD_atz (l : List Ent) (s : ByteArray) (z : DataW Unit) : (mD l).atKey (keyL s) z = (look s (fit l)).elim z litS := by
  refine snoc_ind (P := fun l => (mD l).atKey (keyL s) z = (look s (fit l)).elim z litS) rfl (fun l p ih => ?_) l
  rw [mD_snoc, look_snoc]
  by_cases h : p.1 = s
  · rw [if_pos h, ← h, atKey_put_same (mD_map l) (keyL_lit p.1)]
    rfl
  · rw [if_neg h, atKey_put_other (fun hk => h (keyL_inj hk).symm), ih]
theorem lookK {w : World} {b n : Nat} {l : List Ent} (h : w.ownsMap Tryz.prog 9 strE b n (mD l)) {x t : ByteArray} (hx : x.size ≤ maxLen) (hl : look x (fit l) = some t) :
    Sem.run Tryz.prog (Instr.lookup 72 (.map (some b)) (.string x) false) w = .ok (.string t) w := by
  obtain ⟨v, ps, hrun, hv⟩ := h.lookup (t := 72) lawS Tryz.underlying72 (z := .string ⟨#[]⟩) (show (zeroValue 9).run Tryz.prog w = .ok (.string ⟨#[]⟩) w by kernel_rfl) (strE_of (s := ⟨#[]⟩) (by decide)) (key_of hx)
  obtain ⟨s, rfl, hs, _⟩ := plainElem_string_inv Tryz.underlying9 hv
  have h1 : (mD l).atKey (keyL x) (litS ⟨#[]⟩) = litS s := by injection hs
  rw [mD_atz, hl] at h1
  rw [hrun, ← litS_inj h1]
theorem keys_sort (l : List Ent) : (((fit l).map (·.1)).map bs).mergeSort leB = ((fit l).map (·.1)).map bs := by
  refine List.mergeSort_of_pairwise ?_
  rw [List.pairwise_map, List.pairwise_map]
  exact (fit_srt l).imp fun h => by simp [leB, List.le_of_lt h]
end Go.Proofs.YtojlpfakdodnfaaGreatDoor
