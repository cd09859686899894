/- Qualities: what acceptThousandths and acceptQuality (of the reference) come to. -/
import Derived.Test.YtkbppaddghfgpaaAcc2
import Derived.Test.YtkbppaddghfgpaaFlt
set_option linter.unusedVariables false
set_option linter.unusedSimpArgs false
namespace Go.Proofs.Ytkbppaddghfgpaa
open Go.RowKit

def dg (c : UInt8) : Int := (c.toNat : Int) - 48
def thStep (s : Int × Int) (c : UInt8) : Int × Int := (s.1 + s.2 * dg c, s.2 / 10)
def thF (a : UInt8) (ds : List UInt8) : Int × Int := ds.foldl thStep (1000 * dg a, 100)
def qStep (s : Int × Int) (c : UInt8) : Int × Int := (10 * s.1 + dg c, 10 * s.2)
def qF (ds : List UInt8) : Int × Int := ds.foldl qStep (0, 1)
def isDg (c : UInt8) : Prop := 48 ≤ c.toNat ∧ c.toNat ≤ 57
/-- The digits of a quality. -/
structure Dig (l : List UInt8) : Prop where
  len : l.length = 1 ∨ 3 ≤ l.length ∧ l.length ≤ 5
  head : l[0]? = some 48 ∨ l[0]? = some 49
  dot : 1 < l.length → l[1]? = some 46
  digs : ∀ c ∈ l.drop 2, isDg c
  low : ∀ a, l[0]? = some a → (thF a (l.drop 2)).1 ≤ 1000
theorem thF_snoc (a : UInt8) (ds : List UInt8) (c : UInt8) : thF a (ds ++ [c]) = thStep (thF a ds) c := by simp [thF]
theorem qF_snoc (ds : List UInt8) (c : UInt8) : qF (ds ++ [c]) = qStep (qF ds) c := by simp [qF]

theorem thF_unit (a : UInt8) : ∀ ds : List UInt8, ds.length ≤ 3 → (∀ c ∈ ds, isDg c) → (thF a ds).2 = (if ds.length = 0 then 100 else if ds.length = 1 then 10 else if ds.length = 2 then 1 else 0) ∧ 1000 * dg a ≤ (thF a ds).1 ∧ (thF a ds).1 ≤ 1000 * dg a + 999
  | [], _, _ => ⟨rfl, by simp [thF], by simp [thF]; omega⟩
  | [x], _, h => by
    have hx := h x (by simp)
    unfold isDg at hx
    refine ⟨rfl, ?_, ?_⟩ <;> simp only [thF, List.foldl_cons, List.foldl_nil, thStep, dg] <;> omega
  | [x, y], _, h => by
    have hx := h x (by simp)
    have hy := h y (by simp)
    unfold isDg at hx hy
    refine ⟨rfl, ?_, ?_⟩ <;> simp only [thF, List.foldl_cons, List.foldl_nil, thStep, dg] <;> omega
  | [x, y, z], _, h => by
    have hx := h x (by simp)
    have hy := h y (by simp)
    have hz := h z (by simp)
    unfold isDg at hx hy hz
    refine ⟨rfl, ?_, ?_⟩ <;> simp only [thF, List.foldl_cons, List.foldl_nil, thStep, dg] <;> omega
  | _ :: _ :: _ :: _ :: _, h, _ => by simp at h
theorem qF_bd : ∀ ds : List UInt8, ds.length ≤ 3 → (∀ c ∈ ds, isDg c) → 0 ≤ (qF ds).1 ∧ (qF ds).1 ≤ 999 ∧ 1 ≤ (qF ds).2 ∧ (qF ds).2 ≤ 1000
  | [], _, _ => by simp [qF]
  | [x], _, h => by
    have hx := h x (by simp)
    unfold isDg at hx
    simp only [qF, List.foldl_cons, List.foldl_nil, qStep, dg]; omega
  | [x, y], _, h => by
    have hx := h x (by simp)
    have hy := h y (by simp)
    unfold isDg at hx hy
    simp only [qF, List.foldl_cons, List.foldl_nil, qStep, dg]; omega
  | [x, y, z], _, h => by
    have hx := h x (by simp)
    have hy := h y (by simp)
    have hz := h z (by simp)
    unfold isDg at hx hy hz
    simp only [qF, List.foldl_cons, List.foldl_nil, qStep, dg]; omega
  | _ :: _ :: _ :: _ :: _, h, _ => by simp at h

/-- What acceptThousandths answers: false, or that these are digits of a quality. -/
def ThSaid (s : ByteArray) (e : Ending) : Prop := ∃ (n : Int) (ok : Bool), e = .returned (.tuple #[.int .i64 n, .bool ok]) ∧ (ok = true → Dig s.data.toList ∧ ∀ a, s.data.toList[0]? = some a → n = (thF a (s.data.toList.drop 2)).1) ∧ (Dig s.data.toList → ok = true)
theorem data_get (s : ByteArray) (k : Nat) (h : k < s.size) : s.data.toList[k]? = some s[k] := by
  rw [List.getElem?_eq_getElem (by simpa using h)]; rfl
theorem data_len (s : ByteArray) : s.data.toList.length = s.size := by rw [Array.length_toList]; rfl
theorem drop_take_succ (s : ByteArray) (k : Nat) (h2 : 2 ≤ k) (h : k < s.size) : (s.data.toList.take (k + 1)).drop 2 = (s.data.toList.take k).drop 2 ++ [s[k]] := by
  have e : s.data.toList.take (k + 1) = s.data.toList.take k ++ [s[k]] := by rw [List.take_succ_eq_append_getElem (by simpa using h)]; rfl
  rw [e, List.drop_append_of_le_length (by simp; omega)]

set_option maxHeartbeats 1600000 in
set_option maxRecDepth 100000 in
theorem thous (s : ByteArray) (w : World) (hm : s.size ≤ 9223372036854775806) :
    Calls Try.prog 29 #[.string s] w fun e w' => ThSaid s e ∧ w = w' := by
  by_cases c1 : s.size = 0
  · have q1 : ((s.size : Int) == 0) = true := beq_iff_eq.2 (by omega)
    have HX := Lib.hid (show ¬ Dig s.data.toList from fun h => by have := h.len; rw [data_len] at this; omega)
    go_enter Try.func29, Try.ntmps29
    go_wp2_with fail
    go_ret2
    exact ⟨⟨_, _, rfl, by intro h; (cases h), fun h => absurd h HX.out⟩, rfl⟩
  · have q1 : ((s.size : Int) == 0) = false := beq_eq_false_iff_ne.2 (by omega)
    have p0 : 0 < s.size := by omega
    by_cases c2 : 5 < s.size
    · have HX := Lib.hid (show ¬ Dig s.data.toList from fun h => by have := h.len; rw [data_len] at this; omega)
      go_enter Try.func29, Try.ntmps29
      go_wp2_with fail
      go_ret2
      exact ⟨⟨_, _, rfl, by intro h; (cases h), fun h => absurd h HX.out⟩, rfl⟩
    · by_cases c3 : s[0] = 48 ∨ s[0] = 49
      · have hs0 : 48 ≤ s[0].toNat ∧ s[0].toNat ≤ 49 := by
          rcases c3 with h | h <;> rw [h] <;> decide
        have hd0 : s.data.toList[0]? = some 48 ∨ s.data.toList[0]? = some 49 := by
          rw [data_get s 0 p0]
          rcases c3 with h | h
          · exact .inl (by rw [h])
          · exact .inr (by rw [h])
        have HD0 := Lib.hid hd0
        obtain ⟨b1, b2, q3, q4, q5⟩ : ∃ b1 b2 : Bool, ((s[0].toNat : Int) != 48) = b1 ∧ ((s[0].toNat : Int) != 49) = b2 ∧ (b1 && b2) = false := by
          refine ⟨_, _, rfl, rfl, ?_⟩
          rcases c3 with h | h <;> rw [h] <;> rfl
        clear c3 c1 hd0
        by_cases c4 : s.size = 2
        · have q6 : ((s.size : Int) == 2) = true := beq_iff_eq.2 (by omega)
          have HX := Lib.hid (show ¬ Dig s.data.toList from fun h => by have := h.len; rw [data_len] at this; omega)
          clear c4
          cases b1 <;> cases b2 <;> first | (cases q5; done) | skip
          all_goals
            clear q5
            go_enter Try.func29, Try.ntmps29
            go_wp2_with fail
            go_ret2
            exact ⟨⟨_, _, rfl, by intro h; (cases h), fun h => absurd h HX.out⟩, rfl⟩
        · have q6 : ((s.size : Int) == 2) = false := beq_eq_false_iff_ne.2 (by omega)
          by_cases c5 : ∃ h : 1 < s.size, s[1] ≠ 46
          · obtain ⟨h1, h2⟩ := c5
            have q7 : ((s[1].toNat : Int) != 46) = true := by rw [bne_iff_ne]; intro e; exact h2 (UInt8.toNat_inj.1 (by show s[1].toNat = 46; omega))
            have HX := Lib.hid (show ¬ Dig s.data.toList from fun h => by
              have := h.dot (by rw [data_len]; exact h1)
              rw [data_get s 1 h1] at this
              exact h2 (Option.some.inj this))
            clear h2 c4
            cases b1 <;> cases b2 <;> first | (cases q5; done) | skip
            all_goals
              clear q5
              go_enter Try.func29, Try.ntmps29
              go_wp2_with fail
              go_ret2
              exact ⟨⟨_, _, rfl, by intro h; (cases h), fun h => absurd h HX.out⟩, rfl⟩
          · have HDOT : Hid (1 < s.data.toList.length → s.data.toList[1]? = some 46) := by
              intro h
              have h1 : 1 < s.size := by simpa using h
              rw [data_get s 1 h1]
              have : s[1] = 46 := Classical.byContradiction fun h2 => c5 ⟨h1, h2⟩
              rw [this]
            have HLEN := Lib.hid (show s.data.toList.length = 1 ∨ 3 ≤ s.data.toList.length ∧ s.data.toList.length ≤ 5 by
              have : s.data.toList.length = s.size := by rw [Array.length_toList]; rfl
              rw [this]; omega)
            have q7 : ∀ h1 : 1 < s.size, ((s[1].toNat : Int) != 46) = false := by
              intro h1
              have : s[1] = 46 := Classical.byContradiction fun h2 => c5 ⟨h1, h2⟩
              rw [this]; rfl
            clear c5 c4
            by_cases c6 : 1 < s.size
            · have q8 := q7 c6
              clear q7
              cases b1 <;> cases b2 <;> first | (cases q5; done) | skip
              all_goals
                clear q5
                go_enter Try.func29, Try.ntmps29
                go_wp2_with fail
                go_loop [4, 5, 6] (fun nv uv iv => ∃ k : Nat, 2 ≤ k ∧ (k ≤ s.size ∨ k = 2) ∧ iv = .int .i64 k ∧ nv = .int .i64 (thF s[0] ((s.data.toList.take k).drop 2)).1 ∧ uv = .int .i64 (thF s[0] ((s.data.toList.take k).drop 2)).2 ∧ ∀ c ∈ (s.data.toList.take k).drop 2, isDg c) (fun _ _ iv => s.size - (intOf iv).toNat)
                case atStart =>
                  have e : (s.data.toList.take 2).drop 2 = [] := List.drop_eq_nil_of_le (List.length_take_le _ _)
                  exact ⟨2, by omega, .inr rfl, rfl, by rw [e]; rfl, by rw [e]; rfl, by rw [e]; simp⟩
                case round =>
                  obtain ⟨k, hk2, hk, rfl, rfl, rfl, hd⟩ := hrel
                  have hl3 : ((s.data.toList.take k).drop 2).length ≤ 3 := by
                    have := List.length_take_le k s.data.toList
                    rw [List.length_drop]; omega
                  have hu := thF_unit s[0] _ hl3 hd
                  have HD := Lib.hid hd
                  clear hd
                  by_cases hlt : k < s.size
                  · have HN := Lib.hid (drop_take_succ s k hk2 hlt)
                    have HE := Lib.hid (thF_snoc s[0] ((s.data.toList.take k).drop 2) s[k])
                    have hub : (thF s[0] ((s.data.toList.take k).drop 2)).2 = 100 ∨ (thF s[0] ((s.data.toList.take k).drop 2)).2 = 10 ∨ (thF s[0] ((s.data.toList.take k).drop 2)).2 = 1 ∨ (thF s[0] ((s.data.toList.take k).drop 2)).2 = 0 := by
                      rw [hu.1]; split
                      · exact .inl rfl
                      · split
                        · exact .inr (.inl rfl)
                        · split
                          · exact .inr (.inr (.inl rfl))
                          · exact .inr (.inr (.inr rfl))
                    obtain ⟨hu1, hn0, hn1⟩ := hu
                    clear hu1
                    unfold dg at hn0 hn1
                    obtain ⟨n, hn⟩ : ∃ n, n = (thF s[0] ((s.data.toList.take k).drop 2)).1 := ⟨_, rfl⟩
                    obtain ⟨u, hu⟩ : ∃ u, u = (thF s[0] ((s.data.toList.take k).drop 2)).2 := ⟨_, rfl⟩
                    rw [← hn] at hn0 hn1
                    rw [← hu] at hub
                    by_cases hdg : isDg s[k]
                    · have hdg' := hdg
                      unfold isDg at hdg'
                      have HDG := Lib.hid hdg
                      have hp : 0 ≤ u * ((s[k].toNat : Int) - 48) ∧ u * ((s[k].toNat : Int) - 48) ≤ 900 := by
                        rcases hub with h | h | h | h <;> rw [h] <;> omega
                      have hu0 : 0 ≤ u ∧ u ≤ 100 := by rcases hub with h | h | h | h <;> rw [h] <;> omega
                      rw [← hn, ← hu]
                      have HNN := Lib.hid hn
                      have HUU := Lib.hid hu
                      clear hdg hub hn hu
                      go_wp2_with fail
                      go_round
                      case rel =>
                        refine ⟨k + 1, by omega, .inl (by omega), by go_num, ?_, ?_, ?_⟩
                        · rw [HN.out, HE.out]; unfold thStep; rw [← HNN.out, ← HUU.out]; rfl
                        · rw [HN.out, HE.out]; unfold thStep; rw [← HUU.out]
                        · rw [HN.out]; intro c hc
                          rcases List.mem_append.1 hc with hc | hc
                          · exact HD.out c hc
                          · simp only [List.mem_singleton] at hc; rw [hc]; exact HDG.out
                      case measure => simp [intOf]; omega
                    · have hb : s[k].toNat < 48 ∨ 57 < s[k].toNat := by unfold isDg at hdg; omega
                      have HX := Lib.hid (show ¬ Dig s.data.toList from fun h => hdg (h.digs s[k] (List.mem_of_getElem? (i := k - 2) (by rw [List.getElem?_drop, show 2 + (k - 2) = k by omega, data_get s k hlt]))))
                      clear hdg hub hn hu
                      rcases hb with hb | hb
                      · go_wp2_with fail
                        go_ret2
                        exact ⟨⟨_, _, rfl, by intro h; (cases h), fun h => absurd h HX.out⟩, rfl⟩
                      · go_wp2_with fail
                        go_ret2
                        exact ⟨⟨_, _, rfl, by intro h; (cases h), fun h => absurd h HX.out⟩, rfl⟩
                  · have e : s.data.toList.take k = s.data.toList := List.take_of_length_le (by simp; omega)
                    rw [e] at HD ⊢
                    clear hu
                    go_wp2_with fail
                    go_ret2
                    refine ⟨⟨_, _, rfl, ?_, fun h => decide_eq_true (h.low s[0] (data_get s 0 p0))⟩, rfl⟩
                    intro hle
                    have hle := of_decide_eq_true hle
                    refine ⟨⟨HLEN.out, HD0.out, HDOT.out, HD.out, ?_⟩, ?_⟩
                    · intro a ha; rw [data_get s 0 p0] at ha; cases ha; exact hle
                    · intro a ha; rw [data_get s 0 p0] at ha; cases ha; rfl
            · clear q7
              cases b1 <;> cases b2 <;> first | (cases q5; done) | skip
              all_goals
                clear q5
                go_enter Try.func29, Try.ntmps29
                go_wp2_with fail
                go_loop [4, 5, 6] (fun nv uv iv => ∃ k : Nat, 2 ≤ k ∧ (k ≤ s.size ∨ k = 2) ∧ iv = .int .i64 k ∧ nv = .int .i64 (thF s[0] ((s.data.toList.take k).drop 2)).1 ∧ uv = .int .i64 (thF s[0] ((s.data.toList.take k).drop 2)).2 ∧ ∀ c ∈ (s.data.toList.take k).drop 2, isDg c) (fun _ _ iv => s.size - (intOf iv).toNat)
                case atStart =>
                  have e : (s.data.toList.take 2).drop 2 = [] := List.drop_eq_nil_of_le (List.length_take_le _ _)
                  exact ⟨2, by omega, .inr rfl, rfl, by rw [e]; rfl, by rw [e]; rfl, by rw [e]; simp⟩
                case round =>
                  obtain ⟨k, hk2, hk, rfl, rfl, rfl, hd⟩ := hrel
                  have hl3 : ((s.data.toList.take k).drop 2).length ≤ 3 := by
                    have := List.length_take_le k s.data.toList
                    rw [List.length_drop]; omega
                  have hu := thF_unit s[0] _ hl3 hd
                  have HD := Lib.hid hd
                  clear hd
                  by_cases hlt : k < s.size
                  · omega
                  · have e : s.data.toList.take k = s.data.toList := List.take_of_length_le (by simp; omega)
                    rw [e] at HD ⊢
                    clear hu
                    go_wp2_with fail
                    go_ret2
                    refine ⟨⟨_, _, rfl, ?_, fun h => decide_eq_true (h.low s[0] (data_get s 0 p0))⟩, rfl⟩
                    intro hle
                    have hle := of_decide_eq_true hle
                    refine ⟨⟨HLEN.out, HD0.out, HDOT.out, HD.out, ?_⟩, ?_⟩
                    · intro a ha; rw [data_get s 0 p0] at ha; cases ha; exact hle
                    · intro a ha; rw [data_get s 0 p0] at ha; cases ha; rfl
      · have q3 : ((s[0].toNat : Int) != 48) = true := by rw [bne_iff_ne]; intro e; exact c3 (.inl (UInt8.toNat_inj.1 (by show s[0].toNat = 48; omega)))
        have q4 : ((s[0].toNat : Int) != 49) = true := by rw [bne_iff_ne]; intro e; exact c3 (.inr (UInt8.toNat_inj.1 (by show s[0].toNat = 49; omega)))
        have HX := Lib.hid (show ¬ Dig s.data.toList from fun h => by
          have := h.head
          rw [data_get s 0 p0] at this
          exact c3 (this.imp Option.some.inj Option.some.inj))
        clear c3 c1
        go_enter Try.func29, Try.ntmps29
        go_wp2_with fail
        go_ret2
        exact ⟨⟨_, _, rfl, by intro h; (cases h), fun h => absurd h HX.out⟩, rfl⟩
end Go.Proofs.Ytkbppaddghfgpaa
