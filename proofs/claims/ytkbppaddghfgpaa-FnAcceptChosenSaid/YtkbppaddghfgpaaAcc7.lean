/- acceptToken and AcceptAll (of the reference). -/
import Derived.Test.YtkbppaddghfgpaaAcc6
import Derived.OwnWalk
set_option linter.unusedVariables false
set_option linter.unusedSimpArgs false
namespace Go.Proofs.Ytkbppaddghfgpaa
open Go.RowKit

def TokE (s : ByteArray) : Prop := s.data.toList ≠ [] ∧ ∀ c ∈ s.data.toList, tokU c = true
def aTok (n : Nat) : Bool := (decide (97 ≤ n) && decide (n ≤ 122)) || (decide (48 ≤ n) && decide (n ≤ 57)) || n == 45 || n == 42
theorem aTok_all : ∀ n, n < 256 → aTok n = true → tokB ((n : Nat) : Int) = true := by decide +kernel
theorem aTok_ok {c : UInt8} (h : aTok c.toNat = true) : tokU c = true := by
  unfold tokU; rw [aTok_all _ c.toNat_lt h]; rfl
theorem empty_iff (s : ByteArray) : (s.toList != []) = decide (s.size ≠ 0) := by
  rw [Lib.toList_data]
  by_cases h : s.size = 0
  · have : s.data.toList = [] := List.eq_nil_of_length_eq_zero (by rw [data_len]; exact h)
    rw [this, decide_eq_false (by omega)]; rfl
  · have : s.data.toList ≠ [] := fun e => h (by rw [← data_len, e]; rfl)
    rw [decide_eq_true h, bne_iff_ne.2 this]

set_option maxHeartbeats 1600000 in
set_option maxRecDepth 100000 in
theorem accTok (s : ByteArray) (w : World) (hm : s.size ≤ 9223372036854775806) :
    Calls Try.prog 31 #[.string s] w fun e w' => OnlyIf (TokE s) e ∧ w = w' := by
  go_enter Try.func31, Try.ntmps31
  go_wp2_with fail
  go_loop [3] (fun i => ∃ k : Nat, k ≤ s.size ∧ i = .int .i64 k ∧ (∀ x ∈ s.data.toList.take k, tokU x = true)) (fun i => s.size - (intOf i).toNat)
  case atStart => exact ⟨0, Nat.zero_le _, rfl, by simp⟩
  case round =>
    obtain ⟨k, hk, rfl, hall⟩ := hrel
    have HALL := Lib.hid hall
    clear hall
    by_cases hlt : k < s.size
    · have hc8 := s[k].toNat_lt
      have HN : Hid (aTok s[k].toNat = true → ∀ x ∈ s.data.toList.take (k + 1), tokU x = true) := Lib.hid (fun h => all_succ s k hlt HALL.out (aTok_ok h))
      obtain ⟨c, hc⟩ : ∃ c, c = s[k].toNat := ⟨_, rfl⟩
      rw [← hc] at HN
      rcases (by omega : c < 42 ∨ c = 42 ∨ (43 ≤ c ∧ c ≤ 44) ∨ c = 45 ∨ (46 ≤ c ∧ c ≤ 47) ∨ (48 ≤ c ∧ c ≤ 57) ∨ (58 ≤ c ∧ c ≤ 96) ∨ (97 ≤ c ∧ c ≤ 122) ∨ 123 ≤ c) with h | h | h | h | h | h | h | h | h
      all_goals
        first | have e1 : ((s[k].toNat : Int) == 45) = true := beq_iff_eq.2 (by omega) | have e1 : ((s[k].toNat : Int) == 45) = false := beq_eq_false_iff_ne.2 (by omega)
        first | have e2 : ((s[k].toNat : Int) == 42) = true := beq_iff_eq.2 (by omega) | have e2 : ((s[k].toNat : Int) == 42) = false := beq_eq_false_iff_ne.2 (by omega)
        first | have e3 : decide (97 ≤ (s[k].toNat : Int)) = true := decide_eq_true (by omega) | have e3 : decide (97 ≤ (s[k].toNat : Int)) = false := decide_eq_false (by omega)
        first | have e4 : decide (48 ≤ (s[k].toNat : Int)) = true := decide_eq_true (by omega) | have e4 : decide (48 ≤ (s[k].toNat : Int)) = false := decide_eq_false (by omega)
        first | have e5 : decide ((s[k].toNat : Int) ≤ 122) = true := decide_eq_true (by omega) | have e5 : decide ((s[k].toNat : Int) ≤ 122) = false := decide_eq_false (by omega)
        first | have e6 : decide ((s[k].toNat : Int) ≤ 57) = true := decide_eq_true (by omega) | have e6 : decide ((s[k].toNat : Int) ≤ 57) = false := decide_eq_false (by omega)
        have HC := Lib.hid hc
        have HH := Lib.hid h
        clear hc h hc8
      all_goals
        go_wp2_with fail
        first
          | (go_ret; exact ⟨⟨_, rfl, fun h => by cases h⟩, rfl⟩)
          | (go_round
             case rel =>
               refine ⟨k + 1, by omega, by go_num, HN.out ?_⟩
               have := HH.out
               unfold aTok
               simp
               omega
             case measure => simp [intOf]; omega)
    · rw [List.take_of_length_le (by simp; omega)] at HALL
      have HE := Lib.hid (empty_iff s)
      go_wp2_with fail
      go_ret
      refine ⟨⟨_, rfl, fun h => ⟨fun e => ?_, HALL.out⟩⟩, rfl⟩
      rw [Lib.toList_data, e] at h
      cases h

theorem own_below {w w' : World} {B e size n : Nat} {v : Value} {xs : List Value} (h : w.ownsRow B e size v n xs) (hb : Below w.heap.size w w') : w'.ownsRow B e size v n xs := by
  refine ⟨h.1, h.2.imp id ?_⟩
  rintro ⟨g, cap, cur, rfl, h1, h2, h3⟩
  refine ⟨g, cap, cur, rfl, h1, ?_, h3⟩
  have hlt : g < w.heap.size := (Array.getElem?_eq_some_iff.1 h2).1
  rw [hb.block g hlt]
  exact h2
theorem cell_two_new (w : World) (x y : Value) (t : TypeId) : ∀ j u, [x, y][j]? = some u → (w.alloc (.cells #[x, y] t)).cell? ((⟨w.heap.size, 0, none⟩ : Addr).add j) = some u := by
  intro j u hj
  match j, hj with
  | 0, hj =>
    simp at hj
    subst hj
    simp [Addr.add]
  | 1, hj =>
    simp at hj
    subst hj
    simp [Addr.add]
theorem cell_two_at (w : World) (x y : Value) (t : TypeId) (n : Nat) (hn : n = w.heap.size) : ∀ j u, [x, y][j]? = some u → (w.alloc (.cells #[x, y] t)).cell? ((⟨n, 0, none⟩ : Addr).add j) = some u := by
  subst hn; exact cell_two_new w x y t
/-- The quality of an entry. -/
def qE (d : ByteArray) : Nat := if d.size = 0 then 4607182418800017408 else qOf d.data.toList
def EntOk (x : Ent) : Prop := TokE x.1 ∧ (x.2.size ≠ 0 → Dig x.2.data.toList)
def fV (x : Ent) : Value := .string x.1
def fQ (x : Ent) : Value := .float .f64 (qE x.2)
/-- What AcceptAll answers. -/
def AllSaid (xs : List Ent) (w' : World) (e : Ending) : Prop := ∃ (v : Value) (b : Bool), e = .returned (.tuple #[v, .bool b]) ∧ (b = true → (∀ x ∈ xs, EntOk x) ∧ RdP fV fQ w' v xs)
theorem info_acc : (Try.prog.info? 61).map (fun i => (i.zero, i.size, i.bytes)) = some (some (.agg #[.string ⟨#[]⟩, .float .f64 0]), 2, 24) := by kernel_rfl
theorem not_empty {s : ByteArray} (h : s.size ≠ 0) : s.toList.isEmpty = false := by
  rw [Lib.toList_data, List.isEmpty_eq_false_iff]
  exact fun e => h (by rw [← data_len, e]; rfl)
theorem is_empty {s : ByteArray} (h : s.size = 0) : s.toList.isEmpty = true := by
  rw [Lib.toList_data, List.isEmpty_iff]
  exact List.eq_nil_of_length_eq_zero (by rw [data_len]; exact h)

set_option maxHeartbeats 1600000 in
set_option maxRecDepth 100000 in
theorem accAll (v : Value) (xs : List Ent) (w : World) (hv : RdE w v xs) (hl : xs.length ≤ 2147483647) (hsz : ∀ x ∈ xs, Small x) :
    Calls Try.prog 10 #[v] w fun e w' => AllSaid xs w' e ∧ Below w.heap.size w w' := by
  have HSZ := Lib.hid hsz
  clear hsz
  obtain ⟨i0, hi, hz0, hz1, hz2⟩ := info_parts info_acc
  obtain ⟨a, cap, b, off, rfl, hcap, hmx, ha, hc⟩ := hv
  unfold maxLen at hmx
  go_enter Try.func10, Try.ntmps10
  go_wp2_with fail
  go_loopw [4, 5] (fun ov iv wr => ∃ k : Nat, k ≤ xs.length ∧ iv = .int .i64 k ∧ (∀ x ∈ xs.take k, EntOk x) ∧ wr.ownsRow w.heap.size 61 2 ov k (two fV fQ (xs.take k)) ∧ Below w.heap.size w wr) (fun _ iv _ => xs.length - (intOf iv).toNat)
  case atStart => exact ⟨0, Nat.zero_le _, rfl, by simp, ⟨rfl, .inl ⟨rfl, rfl⟩⟩, Below.refl _ _⟩
  case round =>
    obtain ⟨k, hk, rfl, hall, hown, hb⟩ := hrel
    have HALL := Lib.hid hall
    clear hall
    by_cases hlt : k < xs.length
    · obtain rfl : a = some ⟨b, off, none⟩ := by
        rcases ha with h | h
        · rw [h] at hlt; exact absurd hlt (Nat.not_lt_zero _)
        · exact h
      obtain ⟨c1, c2⟩ := hc k xs[k] (List.getElem?_eq_getElem hlt)
      have hm1 := HSZ.out xs[k] (List.getElem_mem _)
      have c1' : wr.cell? ⟨b, off + k * 2, none⟩ = some (.string xs[k].1) := (hb.cell (p := ⟨b, off + k * 2, none⟩) (World.block_lt_of_cell? w _ c1)).trans c1
      have c2' : wr.cell? ⟨b, off + k * 2 + 1, none⟩ = some (.string xs[k].2) := (hb.cell (p := ⟨b, off + k * 2 + 1, none⟩) (World.block_lt_of_cell? w _ c2)).trans c2
      have hbl1 : b < wr.heap.size := World.block_lt_of_cell? wr ⟨b, off + k * 2, none⟩ c1'
      have HN : Hid (∀ (q : EntOk xs[k]), ∀ x ∈ xs.take (k + 1), EntOk x) := Lib.hid (fun q x hx => by
        rw [List.take_succ_eq_append_getElem hlt] at hx
        rcases List.mem_append.1 hx with hx | hx
        · exact HALL.out x hx
        · simp only [List.mem_singleton] at hx; rw [hx]; exact q)
      have HT : Hid (two fV fQ (xs.take (k + 1)) = two fV fQ (xs.take k) ++ [fV xs[k], fQ xs[k]]) := Lib.hid (by rw [List.take_succ_eq_append_getElem hlt, two_snoc])
      clear c1 c2 hc
      generalize hy : xs[k] = y at *
      clear hy
      obtain ⟨va, d⟩ := y
      obtain ⟨hm1, hm2⟩ := hm1
      simp only at hm1 hm2 c1' c2'
      by_cases hd : d.size = 0
      · have hd1 := is_empty hd
        have HQE : Hid (fQ (va, d) = .float .f64 4607182418800017408) := Lib.hid (by unfold fQ qE; simp only; rw [if_pos hd])
        go_wp2_with (go_at_call 31; go_must (refine (accTok va _ (by omega)).mono ?_))
        rintro e ⟨ok, rfl, hok⟩
        have HOK := Lib.hid hok
        clear hok
        cases ok with
        | true =>
          go_wp2_with (at_builtin; go_must (refine wpList_append_own _ rfl _ _ 26 rfl w.heap.size 61 i0 (.agg #[.string ⟨#[]⟩, .float .f64 0]) 2 24 Try.underlying26 hi hz0 hz1 hz2 rfl (by decide) _ _ _ rfl (own_below hown (((Below.refl _ wr).alloc (Nat.le_refl _) _).alloc (by simp) _)) ⟨wr.heap.size + 1, 0, none⟩ 1 1 [.string va, .float .f64 4607182418800017408] rfl rfl (cell_two_at _ _ _ _ _ (by simp)) (by intro u hu; simp at hu; rcases hu with rfl | rfl <;> rfl) (by unfold maxLen; omega) (by omega) (by have := hb.size; simp; omega) ?_))
          intro v' w2 hown' hgrow _
          have hb2 := (hb.trans ((((Below.refl _ wr).alloc (Nat.le_refl _) _).alloc (by simp) _).mono hb.size)).grown hgrow (by have := hb.size; simp; omega) (fun j hj => (hown.lt j hj).1)
          go_wp2_with fail
          go_roundw
          case rel =>
            refine ⟨k + 1, by omega, by go_num, HN.out ⟨HOK.out (by trivial), fun h => absurd hd h⟩, ?_, hb2⟩
            rw [HT.out, HQE.out]; exact hown'
          case measure => simp [intOf]; omega
        | false =>
          go_wp2_with fail
          go_ret2
          exact ⟨⟨_, _, rfl, fun h => by cases h⟩, hb.trans (((Below.refl _ wr).alloc (Nat.le_refl _) _).mono hb.size)⟩
      · have hd1 := not_empty hd
        go_wp2_with (go_at_call 29; go_must (refine (thous d _ (by omega)).mono ?_))
        rintro e ⟨n, okd, rfl, hdig, hdig2⟩
        have HDIG := Lib.hid hdig
        clear hdig hdig2
        cases okd with
        | false =>
          go_wp2_with fail
          go_ret2
          exact ⟨⟨_, _, rfl, fun h => by cases h⟩, hb.trans (((Below.refl _ wr).alloc (Nat.le_refl _) _).mono hb.size)⟩
        | true =>
          have HQE : Hid (fQ (va, d) = .float .f64 (qOf d.data.toList)) := Lib.hid (by unfold fQ qE; simp only; rw [if_neg hd])
          have HD := Lib.hid (HDIG.out (by trivial)).1
          clear HDIG
          go_wp2_with (go_at_call 30; go_must (refine (accQ d _ (by omega) HD.out).mono ?_))
          rintro e w1 ⟨rfl, rfl⟩
          go_wp2_with (go_at_call 31; go_must (refine (accTok va _ (by omega)).mono ?_))
          rintro e w1 ⟨⟨ok, rfl, hok⟩, rfl⟩
          have HOK := Lib.hid hok
          clear hok
          cases ok with
          | true =>
            go_wp2_with (at_builtin; go_must (refine wpList_append_own _ rfl _ _ 26 rfl w.heap.size 61 i0 (.agg #[.string ⟨#[]⟩, .float .f64 0]) 2 24 Try.underlying26 hi hz0 hz1 hz2 rfl (by decide) _ _ _ rfl (own_below hown (((Below.refl _ wr).alloc (Nat.le_refl _) _).alloc (by simp) _)) ⟨wr.heap.size + 1, 0, none⟩ 1 1 [.string va, .float .f64 (qOf d.data.toList)] rfl rfl (cell_two_at _ _ _ _ _ (by simp)) (by intro u hu; simp at hu; rcases hu with rfl | rfl <;> rfl) (by unfold maxLen; omega) (by omega) (by have := hb.size; simp; omega) ?_))
            intro v' w2 hown' hgrow _
            have hb2 := (hb.trans ((((Below.refl _ wr).alloc (Nat.le_refl _) _).alloc (by simp) _).mono hb.size)).grown hgrow (by have := hb.size; simp; omega) (fun j hj => (hown.lt j hj).1)
            go_wp2_with fail
            go_roundw
            case rel =>
              refine ⟨k + 1, by omega, by go_num, HN.out ⟨HOK.out (by trivial), fun _ => HD.out⟩, ?_, hb2⟩
              rw [HT.out, HQE.out]; exact hown'
            case measure => simp [intOf]; omega
          | false =>
            go_wp2_with fail
            go_ret2
            exact ⟨⟨_, _, rfl, fun h => by cases h⟩, hb.trans (((Below.refl _ wr).alloc (Nat.le_refl _) _).mono hb.size)⟩
    · rw [List.take_of_length_le (by omega)] at HALL hown
      have hk2 : k = xs.length := by omega
      subst hk2
      go_wp2_with fail
      go_ret2
      exact ⟨⟨_, _, rfl, fun _ => ⟨HALL.out, RdP.of_owns hown⟩⟩, hb⟩
end Go.Proofs.Ytkbppaddghfgpaa
