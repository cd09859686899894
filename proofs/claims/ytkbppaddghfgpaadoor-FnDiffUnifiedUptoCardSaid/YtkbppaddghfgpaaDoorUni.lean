/- The groups of edits and the unified diff's text, in plain Lean. -/
import Derived.Test.YtkbppaddghfgpaaDoorDifE
import Derived.Lib.ItoaNum
set_option linter.unusedVariables false
set_option linter.unusedSimpArgs false
namespace Go.Proofs.YtkbppaddghfgpaaDoor

def at0 (l : List Ed) (k : Nat) : Ed := l.getD k ⟨0, 0, 0, 0, 0⟩
def headE (n : Nat) (e : Ed) : Ed := if e.tag = 101 then ⟨101, max e.i1 (e.i2 - n), e.i2, max e.j1 (e.j2 - n), e.j2⟩ else e
def lastE (n : Nat) (e : Ed) : Ed := if e.tag = 101 then ⟨101, e.i1, min e.i2 (e.i1 + n), e.j1, min e.j2 (e.j1 + n)⟩ else e
def codes0 (l : List Ed) : List Ed := if l = [] then [⟨101, 0, 1, 0, 1⟩] else l
def codes1 (n : Nat) (l : List Ed) : List Ed := l.set 0 (headE n (at0 l 0))
def codes2 (n : Nat) (l : List Ed) : List Ed := l.set (l.length - 1) (lastE n (at0 l (l.length - 1)))
def codesN (n : Nat) (l : List Ed) : List Ed := codes2 n (codes1 n (codes0 l))
def big (n : Nat) (c : Ed) : Prop := c.tag = 101 ∧ n + n < c.i2 - c.i1
instance (n : Nat) (c : Ed) : Decidable (big n c) := by unfold big; infer_instance
def grpStep (n : Nat) (s : List (List Ed) × List Ed) (c : Ed) : List (List Ed) × List Ed :=
  if big n c then (s.1 ++ [s.2 ++ [lastE n c]], [headE n c]) else (s.1, s.2 ++ [c])
def keep (g : List Ed) : Prop := 0 < g.length ∧ (g.length ≠ 1 ∨ (at0 g 0).tag ≠ 101)
instance (g : List Ed) : Decidable (keep g) := by unfold keep; infer_instance
def grpEnd (s : List (List Ed) × List Ed) : List (List Ed) := if keep s.2 then s.1 ++ [s.2] else s.1
def grp (n : Nat) (l : List Ed) : List (List Ed) := grpEnd ((codesN n l).foldl (grpStep n) ([], []))

/-- An edit between lists of these lengths. -/
def OkE (la lb : Nat) (e : Ed) : Prop := e.i1 ≤ e.i2 ∧ e.i2 ≤ la ∧ e.j1 ≤ e.j2 ∧ e.j2 ≤ lb ∧ (e.tag = 101 ∨ (e.tag ≠ 101 ∧ tagOf e.i1 e.i2 e.j1 e.j2 = e.tag ∧ e.tag ≠ 0))
theorem OkE.head {la lb n : Nat} {e : Ed} (h : OkE la lb e) : OkE la lb (headE n e) := by
  unfold headE
  split
  · obtain ⟨h1, h2, h3, h4, _⟩ := h
    exact ⟨by simp only; omega, h2, by simp only; omega, h4, .inl rfl⟩
  · exact h
theorem OkE.last {la lb n : Nat} {e : Ed} (h : OkE la lb e) : OkE la lb (lastE n e) := by
  unfold lastE
  split
  · obtain ⟨h1, h2, h3, h4, _⟩ := h
    exact ⟨by simp only; omega, by simp only; omega, by simp only; omega, by simp only; omega, .inl rfl⟩
  · exact h
theorem at0_mem {l : List Ed} {k : Nat} (h : k < l.length) : at0 l k = l[k] := by
  unfold at0
  rw [List.getD_eq_getElem?_getD, List.getElem?_eq_getElem h]
  rfl
theorem set_ok {P : Ed → Prop} {l : List Ed} {k : Nat} {e : Ed} (hl : ∀ x ∈ l, P x) (he : P e) : ∀ x ∈ l.set k e, P x := by
  intro x hx
  rcases List.mem_or_eq_of_mem_set hx with h | h
  · exact hl x h
  · rw [h]; exact he
theorem codes1_ok {la lb n : Nat} {l : List Ed} (hne : l ≠ []) (h : ∀ e ∈ l, OkE la lb e) : codes1 n l ≠ [] ∧ ∀ e ∈ codes1 n l, OkE la lb e := by
  unfold codes1
  have hp : 0 < l.length := List.length_pos_iff.2 hne
  refine ⟨fun h0 => ?_, set_ok h ?_⟩
  · have := congrArg List.length h0
    rw [List.length_set] at this
    simp at this
    exact hne this
  · rw [at0_mem hp]
    exact (h _ (List.getElem_mem hp)).head
theorem codes2_ok {la lb n : Nat} {l : List Ed} (hne : l ≠ []) (h : ∀ e ∈ l, OkE la lb e) : ∀ e ∈ codes2 n l, OkE la lb e := by
  unfold codes2
  have hp : 0 < l.length := List.length_pos_iff.2 hne
  refine set_ok h ?_
  rw [at0_mem (by omega)]
  exact (h _ (List.getElem_mem (by omega))).last
theorem codesN_len (n : Nat) (l : List Ed) : (codesN n l).length = (codes0 l).length := by
  unfold codesN codes2 codes1
  rw [List.length_set, List.length_set]
theorem step_ok {la lb n : Nat} : ∀ (cs : List Ed) (s : List (List Ed) × List Ed), (∀ e ∈ cs, OkE la lb e) → (∀ g ∈ s.1, g ≠ [] ∧ ∀ e ∈ g, OkE la lb e) → (∀ e ∈ s.2, OkE la lb e) →
    (∀ g ∈ (cs.foldl (grpStep n) s).1, g ≠ [] ∧ ∀ e ∈ g, OkE la lb e) ∧ ∀ e ∈ (cs.foldl (grpStep n) s).2, OkE la lb e
  | [], s, _, h1, h2 => ⟨h1, h2⟩
  | c :: cs, s, h, h1, h2 => by
    have hc := h c (List.mem_cons_self ..)
    rw [List.foldl_cons]
    refine step_ok cs _ (fun e he => h e (List.mem_cons_of_mem _ he)) ?_ ?_
    · unfold grpStep
      split
      · intro g hg
        rcases List.mem_append.1 hg with hg | hg
        · exact h1 g hg
        · rw [List.mem_singleton.1 hg]
          refine ⟨by simp, fun e he => ?_⟩
          rcases List.mem_append.1 he with he | he
          · exact h2 e he
          · rw [List.mem_singleton.1 he]; exact hc.last
      · exact h1
    · unfold grpStep
      split
      · intro e he
        rw [List.mem_singleton.1 he]; exact hc.head
      · intro e he
        rcases List.mem_append.1 he with he | he
        · exact h2 e he
        · rw [List.mem_singleton.1 he]; exact hc
theorem grp_ok {la lb n : Nat} {l : List Ed} (h : ∀ e ∈ l, OkE la lb e) : ∀ g ∈ grp n l, g ≠ [] ∧ ∀ e ∈ g, OkE la lb e := by
  by_cases hl : l = []
  · subst hl
    intro g hg
    refine absurd hg ?_
    have : grp n [] = [] := by
      have e0 : codesN n [] = [⟨101, max 0 (1 - n), min 1 (max 0 (1 - n) + n), max 0 (1 - n), min 1 (max 0 (1 - n) + n)⟩] := rfl
      unfold grp
      rw [e0, List.foldl_cons, List.foldl_nil]
      have hb : ¬ big n ⟨101, max 0 (1 - n), min 1 (max 0 (1 - n) + n), max 0 (1 - n), min 1 (max 0 (1 - n) + n)⟩ := by
        rintro ⟨_, h⟩
        simp only at h
        omega
      unfold grpStep
      rw [if_neg hb]
      unfold grpEnd
      rw [if_neg]
      rintro ⟨_, h | h⟩
      · exact h rfl
      · exact h rfl
    rw [this]
    exact List.not_mem_nil
  · have e0 : codes0 l = l := by unfold codes0; rw [if_neg hl]
    obtain ⟨c1, c2⟩ := codes1_ok (n := n) hl h
    have c3 := codes2_ok (n := n) c1 c2
    unfold grp codesN
    rw [e0]
    obtain ⟨s1, s2⟩ := step_ok (n := n) (codes2 n (codes1 n l)) ([], []) c3 (fun g hg => by cases hg) (fun e he => by cases he)
    unfold grpEnd
    split
    · rename_i hk
      intro g hg
      rcases List.mem_append.1 hg with hg | hg
      · exact s1 g hg
      · rw [List.mem_singleton.1 hg]
        exact ⟨fun e => by rw [e] at hk; exact absurd hk.1 (Nat.lt_irrefl 0), s2⟩
    · exact s1
/-- How many edits the groups hold. -/
def tot : List (List Ed) → Nat
  | [] => 0
  | g :: r => g.length + tot r
theorem tot_app : ∀ (l1 l2 : List (List Ed)), tot (l1 ++ l2) = tot l1 + tot l2
  | [], l2 => by simp [tot]
  | t :: r, l2 => by
    show t.length + tot (r ++ l2) = t.length + tot r + tot l2
    rw [tot_app r l2]; omega
theorem step_tot {n : Nat} : ∀ (cs : List Ed) (s : List (List Ed) × List Ed), tot (cs.foldl (grpStep n) s).1 + (cs.foldl (grpStep n) s).2.length ≤ tot s.1 + s.2.length + 2 * cs.length ∧ (cs.foldl (grpStep n) s).1.length ≤ s.1.length + cs.length
  | [], s => by simp
  | c :: cs, s => by
    rw [List.foldl_cons]
    obtain ⟨h1, h2⟩ := step_tot (n := n) cs (grpStep n s c)
    have key : tot (grpStep n s c).1 + (grpStep n s c).2.length ≤ tot s.1 + s.2.length + 2 ∧ (grpStep n s c).1.length ≤ s.1.length + 1 := by
      unfold grpStep
      split
      · simp only [tot_app, tot, List.length_append, List.length_cons, List.length_nil]; omega
      · simp only [List.length_append, List.length_cons, List.length_nil]; omega
    rw [List.length_cons]
    omega
theorem grp_tot (n : Nat) (l : List Ed) : tot (grp n l) ≤ 2 * l.length + 2 ∧ (grp n l).length ≤ l.length + 2 := by
  obtain ⟨h1, h2⟩ := step_tot (n := n) (codesN n l) ([], [])
  have hc : (codesN n l).length ≤ l.length + 1 := by
    rw [codesN_len]
    unfold codes0
    split <;> simp
  unfold grp grpEnd
  simp only [tot, List.length_nil] at h1 h2
  split
  · simp only [tot_app, tot, List.length_append, List.length_cons, List.length_nil]; omega
  · omega
theorem step_snoc (n : Nat) (cs : List Ed) (c : Ed) : (cs ++ [c]).foldl (grpStep n) ([], []) = grpStep n (cs.foldl (grpStep n) ([], [])) c := by simp

/-! The text. -/
def part (a : List ByteArray) (i j : Nat) : List ByteArray := (a.take j).drop i
def linesT (p : UInt8) (ls : List ByteArray) : List UInt8 := ls.flatMap fun l => p :: l.data.toList
def edT (a b : List ByteArray) (e : Ed) : List UInt8 := if e.tag = 101 then linesT 32 (part a e.i1 e.i2) else linesT 45 (part a e.i1 e.i2) ++ linesT 43 (part b e.j1 e.j2)
def rngT (s e : Nat) : List UInt8 := if e - s = 1 then Lib.decDigits (s + 1) else if e - s = 0 then Lib.decDigits s ++ [44, 48] else Lib.decDigits (s + 1) ++ 44 :: Lib.decDigits (e - s)
def hunkT (a b : List ByteArray) (g : List Ed) : List UInt8 :=
  [64, 64, 32, 45] ++ rngT (at0 g 0).i1 (at0 g (g.length - 1)).i2 ++ [32, 43] ++ rngT (at0 g 0).j1 (at0 g (g.length - 1)).j2 ++ [32, 64, 64, 10]
def hunksT (a b : List ByteArray) (gs : List (List Ed)) : List UInt8 := gs.flatMap fun g => hunkT a b g ++ g.flatMap (edT a b)
def headT (x y : ByteArray) : List UInt8 := [45, 45, 45, 32] ++ x.data.toList ++ [10, 43, 43, 43, 32] ++ y.data.toList ++ [10]
def uniT (a b : List ByteArray) (x y : ByteArray) (gs : List (List Ed)) : List UInt8 := if gs = [] then [] else headT x y ++ hunksT a b gs

/-- All the letters of a list of lines, one more a line. -/
def lets : List ByteArray → Nat
  | [] => 0
  | l :: r => l.size + 1 + lets r
theorem linesT_len (p : UInt8) : ∀ ls : List ByteArray, (linesT p ls).length = lets ls
  | [] => rfl
  | l :: r => by
    have ih := linesT_len p r
    unfold linesT at ih ⊢
    rw [List.flatMap_cons, List.length_append, List.length_cons, ih]
    rfl
theorem lets_app : ∀ l1 l2 : List ByteArray, lets (l1 ++ l2) = lets l1 + lets l2
  | [], l2 => by simp [lets]
  | l :: r, l2 => by
    show l.size + 1 + lets (r ++ l2) = l.size + 1 + lets r + lets l2
    rw [lets_app r l2]; omega
theorem part_lets (a : List ByteArray) (i j : Nat) : lets (part a i j) ≤ lets a := by
  have h1 := lets_app (a.take j) (a.drop j)
  rw [List.take_append_drop] at h1
  have h2 := lets_app ((a.take j).take i) ((a.take j).drop i)
  rw [List.take_append_drop] at h2
  unfold part
  omega
theorem edT_len (a b : List ByteArray) (e : Ed) : (edT a b e).length ≤ lets a + lets b := by
  have h1 := part_lets a e.i1 e.i2
  have h2 := part_lets b e.j1 e.j2
  unfold edT
  split
  · rw [linesT_len]; omega
  · rw [List.length_append, linesT_len, linesT_len]; omega
theorem eds_len (a b : List ByteArray) : ∀ g : List Ed, (g.flatMap (edT a b)).length ≤ g.length * (lets a + lets b)
  | [] => by simp
  | e :: g => by
    have := eds_len a b g
    have := edT_len a b e
    rw [List.flatMap_cons, List.length_append, List.length_cons, Nat.succ_mul]
    omega
theorem dec_len {u : Nat} (h : u < 100000000000) : (Lib.decDigits u).length ≤ 11 := by
  have : ∀ (k u : Nat), u < 10 ^ (k + 1) → (Lib.decDigits u).length ≤ k + 1 := by
    intro k
    induction k with
    | zero => intro u h; rw [Lib.decDigits, dif_pos (by simpa using h)]; simp
    | succ k ih =>
      intro u h
      rw [Lib.decDigits]
      split
      · simp
      · rw [List.length_append]
        have := ih (u / 10) (by rw [Nat.pow_succ] at h; omega)
        simp
        omega
  exact this 10 u (by simpa using h)
theorem rngT_len {s e : Nat} (hs : s ≤ 2147483647) (he : e ≤ 2147483647) : (rngT s e).length ≤ 23 := by
  have h1 := dec_len (u := s + 1) (by omega)
  have h2 := dec_len (u := s) (by omega)
  have h3 := dec_len (u := e - s) (by omega)
  unfold rngT
  split
  · omega
  · split
    · rw [List.length_append]; simp; omega
    · rw [List.length_append, List.length_cons]; omega
theorem hunkT_len {a b : List ByteArray} {g : List Ed} {la lb : Nat} (hla : la ≤ 2147483647) (hlb : lb ≤ 2147483647) (hg : g ≠ []) (h : ∀ e ∈ g, OkE la lb e) : (hunkT a b g).length ≤ 56 := by
  have hp : 0 < g.length := List.length_pos_iff.2 hg
  have h0 := h _ (List.getElem_mem hp)
  have h1 := h (g[g.length - 1]'(by omega)) (List.getElem_mem (by omega))
  rw [← at0_mem hp] at h0
  rw [← at0_mem (by omega)] at h1
  obtain ⟨a1, a2, a3, a4, _⟩ := h0
  obtain ⟨b1, b2, b3, b4, _⟩ := h1
  have r1 := rngT_len (s := (at0 g 0).i1) (e := (at0 g (g.length - 1)).i2) (by omega) (by omega)
  have r2 := rngT_len (s := (at0 g 0).j1) (e := (at0 g (g.length - 1)).j2) (by omega) (by omega)
  unfold hunkT
  simp only [List.length_append, List.length_cons, List.length_nil]
  omega
theorem hunks_len {a b : List ByteArray} {la lb : Nat} (hla : la ≤ 2147483647) (hlb : lb ≤ 2147483647) : ∀ gs : List (List Ed), (∀ g ∈ gs, g ≠ [] ∧ ∀ e ∈ g, OkE la lb e) → (hunksT a b gs).length ≤ gs.length * 56 + tot gs * (lets a + lets b)
  | [], _ => by simp [hunksT, tot]
  | g :: gs, h => by
    have ih := hunks_len (a := a) (b := b) hla hlb gs (fun g' hg => h g' (List.mem_cons_of_mem _ hg))
    obtain ⟨h1, h2⟩ := h g (List.mem_cons_self ..)
    have e1 := hunkT_len (a := a) (b := b) hla hlb h1 h2
    have e2 := eds_len a b g
    unfold hunksT at ih ⊢
    rw [List.flatMap_cons, List.length_append, List.length_append, List.length_cons, Nat.succ_mul]
    show _ ≤ gs.length * 56 + 56 + (g.length + tot gs) * (lets a + lets b)
    rw [Nat.add_mul]
    omega
theorem uni_len {a b : List ByteArray} {x y : ByteArray} {la lb n : Nat} {l : List Ed} (hla : la ≤ 2147483647) (hlb : lb ≤ 2147483647) (h : ∀ e ∈ l, OkE la lb e) (hl : l.length ≤ 4194304) (ha : lets a ≤ 2097152) (hb : lets b ≤ 2097152) (hx : x.size ≤ 4194304) (hy : y.size ≤ 4194304) :
    (headT x y).length + (hunksT a b (grp n l)).length ≤ 281474976710656 / 2 := by
  obtain ⟨t1, t2⟩ := grp_tot n l
  have h1 := hunks_len (a := a) (b := b) hla hlb (grp n l) (grp_ok h)
  have hx' : x.data.toList.length = x.size := Array.length_toList
  have hy' : y.data.toList.length = y.size := Array.length_toList
  have hm : tot (grp n l) * (lets a + lets b) ≤ 8388610 * 4194304 := Nat.mul_le_mul (by omega) (by omega)
  unfold headT
  simp only [List.length_append, List.length_cons, List.length_nil]
  omega
end Go.Proofs.YtkbppaddghfgpaaDoor
