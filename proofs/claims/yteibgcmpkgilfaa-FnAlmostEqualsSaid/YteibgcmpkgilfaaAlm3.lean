/- AlmostEqualFloat64s, AlmostEquals and the law FnAlmostEquals. -/
import Derived.Test.YteibgcmpkgilfaaAlm2
set_option linter.unusedVariables false
set_option linter.unusedSimpArgs false
namespace Go.Proofs.Yteibgcmpkgilfaa
open Go.RowKit Go.WideShapes

def almL (e : Nat) : List Nat → List Nat → Bool
  | [], [] => true
  | x :: xs, y :: ys => almG x y e && almL e xs ys
  | _, _ => false
theorem almL_len (e : Nat) : ∀ (xs ys : List Nat), xs.length ≠ ys.length → almL e xs ys = false
  | [], [], h => absurd rfl h
  | [], _ :: _, _ => rfl
  | _ :: _, [], _ => rfl
  | x :: xs, y :: ys, h => by
    have := almL_len e xs ys (by simpa using h)
    simp [almL, this]
theorem almL_drop (e : Nat) (xs ys : List Nat) (k : Nat) (h1 : k < xs.length) (h2 : k < ys.length) : almL e (xs.drop k) (ys.drop k) = (almG xs[k] ys[k] e && almL e (xs.drop (k + 1)) (ys.drop (k + 1))) := by
  rw [List.drop_eq_getElem_cons h1, List.drop_eq_getElem_cons h2]; rfl
/-- The world has drawn, no more. -/
def Drn (w w' : World) : Prop := ∃ n, w' = w.drewN n
theorem Drn.below {w w' : World} (h : Drn w w') : Below w.heap.size w w' := by obtain ⟨n, rfl⟩ := h; exact below_drewN (Below.refl _ w) n
theorem Drn.more {w w' : World} (h : Drn w w') (m : Nat) : Drn w (w'.drewN m) := by obtain ⟨n, rfl⟩ := h; exact ⟨_, World.drewN_drewN _ _ _⟩
theorem Drn.trans {a b c : World} (h : Drn a b) (k : Drn b c) : Drn a c := by obtain ⟨n, rfl⟩ := h; obtain ⟨m, rfl⟩ := k; exact ⟨_, World.drewN_drewN _ _ _⟩
def Lt64 (xs : List Nat) : Prop := ∀ x ∈ xs, x < 18446744073709551616

theorem almOne (a b e : Nat) (ha : a < 18446744073709551616) (hb : b < 18446744073709551616) (w : World) :
    Calls Try.prog 20 #[.float .f64 a, .float .f64 b, .float .f64 e] w fun en w' => en = .returned (.bool (almG a b e)) ∧ ∃ n, w' = w.drewN n := by
  go_enter Try.func20, Try.ntmps20
  go_wp2_with fail
  refine (alm_any a b e ha hb _).mono ?_
  rintro en w1 ⟨rfl, n, rfl⟩
  go_wp2_with fail
  go_ret
  exact ⟨rfl, n, rfl⟩

set_option maxHeartbeats 1600000 in
set_option maxRecDepth 100000 in
theorem alms_any (u v : Value) (xs ys : List Nat) (e : Nat) (w : World) (hu : RdF w u xs) (hv : RdF w v ys) (hx : Lt64 xs) (hy : Lt64 ys) :
    Calls Try.prog 30 #[u, v, .float .f64 e] w fun en w' => en = .returned (.bool (almL e xs ys)) ∧ ∃ n, w' = w.drewN n := by
  obtain ⟨a, cap, b, off, rfl, hl, hm, ha, hc⟩ := hu
  obtain ⟨a2, cap2, b2, off2, rfl, hl2, hm2, ha2, hc2⟩ := hv
  unfold maxLen at hm hm2
  by_cases hlen : xs.length = ys.length
  · have HL := Lib.hid hlen
    have hne : ((xs.length : Int) != (ys.length : Int)) = false := by simp [hlen]
    have hle : xs.length ≤ ys.length := by omega
    clear hlen
    go_enter Try.func30, Try.ntmps30
    go_wp2
    go_loopw [15] (fun i wr => ∃ k : Nat, k ≤ xs.length ∧ i = .int .i64 k ∧ almL e xs ys = almL e (xs.drop k) (ys.drop k) ∧ Drn w wr) (fun i _ => xs.length - (intOf i).toNat)
    case atStart => exact ⟨0, Nat.zero_le _, rfl, rfl, 0, rfl⟩
    case round =>
      obtain ⟨k, hk, rfl, hs, hd⟩ := hrel
      have hb := hd.below
      have HS := Lib.hid hs
      clear hs
      by_cases hlt : k < xs.length
      · have hlt2 : k < ys.length := by omega
        obtain rfl : a = some ⟨b, off, none⟩ := ha.resolve_left (by intro h; simp [h] at hlt)
        have hcx := RdC.at hc hb hlt
        have hcy := RdC.at hc2 hb hlt2
        have hcy2 : a2 = some ⟨b2, off2, none⟩ := ha2.resolve_left (by intro h; simp [h] at hlt2)
        subst hcy2
        have HT := Lib.hid (almL_drop e xs ys k hlt hlt2)
        have HX := Lib.hid (hx xs[k] (List.getElem_mem _))
        have HY := Lib.hid (hy ys[k] (List.getElem_mem _))
        generalize xs[k] = x at *
        generalize ys[k] = y at *
        have hki : (k : Int) < xs.length := by omega
        have hki2 : (k : Int) < ys.length := by omega
        have HCL := fun wx => alm_any x y e HX.out HY.out wx
        cases hs : almG x y e with
        | true =>
          have HB := Lib.hid hs
          rw [hs] at HCL
          have HCL2 := Lib.hid HCL
          clear hs HCL
          go_wp2_with fail
          go_quiet ((go_at_call 29; exact Calls.quiet_of (HCL2.out _)))
          go_wp2_with fail
          go_roundw
          case rel => exact ⟨k + 1, by omega, by go_num, by rw [HS.out, HT.out, HB.out]; rfl, hd.more _⟩
          case measure => simp [intOf]; omega
        | false =>
          have HB := Lib.hid hs
          rw [hs] at HCL
          have HCL2 := Lib.hid HCL
          clear hs HCL
          go_wp2_with fail
          go_quiet ((go_at_call 29; exact Calls.quiet_of (HCL2.out _)))
          go_wp2_with fail
          go_ret
          exact ⟨ret_bool (by rw [HS.out, HT.out, HB.out]; rfl), hd.more _⟩
      · go_wp2_with fail
        go_ret
        have e1 : xs.drop k = [] := List.drop_eq_nil_of_le (by omega)
        have e2 : ys.drop k = [] := List.drop_eq_nil_of_le (by rw [← HL.out]; omega)
        exact ⟨ret_bool (by rw [HS.out, e1, e2]; rfl), hd⟩
  · have hne : ((xs.length : Int) != (ys.length : Int)) = true := by rw [bne_iff_ne]; omega
    go_enter Try.func30, Try.ntmps30
    go_wp2
    go_ret
    exact ⟨ret_bool (almL_len e xs ys hlen).symm, 0, rfl⟩

theorem implAlms (u v : Value) (xs ys : List Nat) (e : Nat) (w : World) (hu : RdF w u xs) (hv : RdF w v ys) (hx : Lt64 xs) (hy : Lt64 ys) :
    Calls Try.prog 21 #[u, v, .float .f64 e] w fun en w' => en = .returned (.bool (almL e xs ys)) ∧ ∃ n, w' = w.drewN n := by
  go_enter Try.func21, Try.ntmps21
  go_wp2_with fail
  refine (alms_any u v xs ys e _ hu hv hx hy).mono ?_
  rintro en w1 ⟨rfl, n, rfl⟩
  go_wp2_with fail
  go_ret
  exact ⟨rfl, n, rfl⟩

theorem RdC.drewN {α : Type} {f : α → Value} {w : World} {v : Value} {xs : List α} (h : RdC f w v xs) (n : Nat) : RdC f (w.drewN n) v xs := h

set_option maxHeartbeats 1600000 in
set_option maxRecDepth 100000 in
theorem almLaw (u v : Value) (xs ys : List Nat) (e : Nat) (w : World) (hu : RdF w u xs) (hv : RdF w v ys) (hx : Lt64 xs) (hy : Lt64 ys) :
    Calls Try.prog 7 #[u, v, .float .f64 e] w fun en w' => en = .returned (.bool true) ∧ Below w.heap.size w w' := by
  have HU := Lib.hid hu
  have HV := Lib.hid hv
  obtain ⟨a, cap, b, off, rfl, hl, hm, ha, hc⟩ := hu
  obtain ⟨a2, cap2, b2, off2, rfl, hl2, hm2, ha2, hc2⟩ := hv
  by_cases hs1 : xs.length ≤ 2147483647
  · by_cases hs2 : ys.length ≤ 2147483647
    · unfold maxLen at hm hm2
      obtain ⟨q0, hq0⟩ : ∃ q0, q0 = ((xs.length : Int) == (ys.length : Int)) := ⟨_, rfl⟩
      have hq : ((xs.length : Int) == (ys.length : Int)) = q0 := hq0.symm
      have HQ : Hid (q0 = true → xs.length = ys.length) := by
        intro h; rw [h] at hq0
        have := beq_iff_eq.1 hq0.symm; omega
      have HQ2 : Hid (q0 = false → xs.length ≠ ys.length) := by
        intro h h2; rw [h, h2] at hq0; simp at hq0
      clear hq0
      go_enter Try.func7, Try.ntmps7
      go_wp2
      go_loopw [7, 8] (fun qv i wr => ∃ (k : Nat) (q : Bool), k ≤ xs.length ∧ i = .int .i64 k ∧ qv = .bool q ∧ almL e xs ys = (q && almL e (xs.drop k) (ys.drop k)) ∧ (q = true → xs.length = ys.length) ∧ Drn w wr) (fun _ i _ => xs.length - (intOf i).toNat)
      case atStart =>
        refine ⟨0, q0, Nat.zero_le _, rfl, rfl, ?_, HQ.out, 0, rfl⟩
        cases q0 with
        | true => rfl
        | false => exact almL_len e xs ys (HQ2.out rfl)
      case round =>
        obtain ⟨k, q, hk, rfl, rfl, hs, hle, hd⟩ := hrel
        have hb := hd.below
        have HS := Lib.hid hs
        have HLE := Lib.hid hle
        clear hs hle hq
        by_cases hlt : k < xs.length
        · cases q with
          | true =>
            have hlt2 : k < ys.length := by rw [← HLE.out rfl]; exact hlt
            obtain rfl : a = some ⟨b, off, none⟩ := ha.resolve_left (by intro h; simp [h] at hlt)
            have hcx := RdC.at hc hb hlt
            have hcy := RdC.at hc2 hb hlt2
            have hcy2 : a2 = some ⟨b2, off2, none⟩ := ha2.resolve_left (by intro h; simp [h] at hlt2)
            subst hcy2
            have HT := Lib.hid (almL_drop e xs ys k hlt hlt2)
            have HX := Lib.hid (hx xs[k] (List.getElem_mem _))
            have HY := Lib.hid (hy ys[k] (List.getElem_mem _))
            generalize xs[k] = x at *
            generalize ys[k] = y at *
            have hki : (k : Int) < xs.length := by omega
            have hki2 : (k : Int) < ys.length := by omega
            obtain ⟨g, hg⟩ : ∃ g, g = almG x y e := ⟨_, rfl⟩
            have HCL : Hid (∀ wx, Calls Try.prog 20 #[.float .f64 x, .float .f64 y, .float .f64 e] wx fun en w' => en = .returned (.bool g) ∧ ∃ n, w' = wx.drewN n) := by
              rw [hg]; exact fun wx => almOne x y e HX.out HY.out wx
            have HG := Lib.hid hg
            clear hg
            go_wp2_with fail
            go_quiet ((go_at_call 20; exact Calls.quiet_of (HCL.out _)))
            go_wp2_with fail
            go_roundw
            case rel => exact ⟨k + 1, g, by omega, by go_num, rfl, by rw [HS.out, HT.out, ← HG.out, Bool.true_and], fun _ => HLE.out (by first | trivial | rfl), hd.more _⟩
            case measure => simp [intOf]; omega
          | false =>
            have HF : Hid (almL e xs ys = false) := by rw [HS.out]; exact rfl
            have HR := Lib.hid (HU.out.below hb)
            have HR2 := Lib.hid (HV.out.below hb)
            go_wp2_with fail
            refine (implAlms _ _ xs ys e _ HR.out HR2.out hx hy).mono ?_
            rintro en w1 ⟨rfl, hd1⟩
            rw [HF.out]
            go_wp2_with fail
            refine (implAlms _ _ [] [] 0 _ (RdC.nil _ _) (RdC.nil _ _) (by intro x h; cases h) (by intro x h; cases h)).mono ?_
            rintro en w2 ⟨rfl, hd2⟩
            go_wp2_with fail
            go_ret
            exact ⟨rfl, (hd.trans (Drn.trans hd1 hd2)).below⟩
        · have HF : Hid (almL e xs ys = q) := by
            rw [HS.out]
            cases q with
            | false => exact rfl
            | true =>
              rw [List.drop_eq_nil_of_le (by omega), List.drop_eq_nil_of_le (by rw [← HLE.out rfl]; omega)]; exact rfl
          have HR := Lib.hid (HU.out.below hb)
          have HR2 := Lib.hid (HV.out.below hb)
          go_wp2_with fail
          refine (implAlms _ _ xs ys e _ HR.out HR2.out hx hy).mono ?_
          rintro en w1 ⟨rfl, hd1⟩
          rw [HF.out]
          have hqq : (q == q) = true := by cases q <;> rfl
          go_wp2_with fail
          refine (implAlms _ _ [] [] 0 _ (RdC.nil _ _) (RdC.nil _ _) (by intro x h; cases h) (by intro x h; cases h)).mono ?_
          rintro en w2 ⟨rfl, hd2⟩
          go_wp2_with fail
          go_ret
          exact ⟨rfl, (hd.trans (Drn.trans hd1 hd2)).below⟩
    · go_enter Try.func7, Try.ntmps7
      go_wp2_with fail
      go_ret
      exact ⟨rfl, Below.refl _ _⟩
  · go_enter Try.func7, Try.ntmps7
    go_wp2_with fail
    go_ret
    exact ⟨rfl, Below.refl _ _⟩

theorem lt64_wf {x : Nat} (h : (Lit.float .f64 x).wf = true) : x < 18446744073709551616 := by simpa [Lit.wf] using h
theorem open_f64s {H : Type} {enc : TypeId × Value → H} {W : World} {base : Nat} {v : Value} {d : DataW H} {ps : List MemPlace}
    (hok : Value.okWide Try.prog W .any base 23 v) (h : DataW.Trod enc Try.prog W 0 (fun _ => true) true 23 v d ps) : ∃ xs : List Nat, RdF W v xs ∧ Lt64 xs := by
  obtain ⟨xs, hx⟩ := open_g (n := 1) (R := fun _ cs (x : Nat) => cs = [.float .f64 x] ∧ (Lit.float .f64 x).wf = true) Try.underlying23 (by kernel_rfl) (by omega) (el_float Try.underlying25) hok h
  exact ⟨xs, hx.one.1, fun x hm => lt64_wf (hx.one.2 x hm)⟩
theorem fnAlmostEquals.walk0 (w : World) (u : Value) (xs : List Nat) (hu : RdF w u xs ∧ Lt64 xs) (v : Value) (ys : List Nat) (hv : RdF w v ys ∧ Lt64 ys) (e : Nat) (he : (Lit.float .f64 e).wf = true) :
    Calls Try.prog 7 #[u, v, .float .f64 e] w fun en w' => en = .returned (.bool true) ∧ Below w.heap.size w w' := almLaw u v xs ys e w hu.1 hv.1 hu.2 hv.2
end Go.Proofs.Yteibgcmpkgilfaa
