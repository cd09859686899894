/- header.ParseAccept over lines of entries. -/
import Derived.Test.YtkbppaddghfgpaaAcc10
import Derived.Deep.LoopGhost
import Derived.WalkMore
import Derived.Deep.Cut
set_option linter.unusedVariables false
set_option linter.unusedSimpArgs false
namespace Go.Proofs.Ytkbppaddghfgpaa
open Go.RowKit

abbrev tAS : Nat := 88
theorem info_as : (Try.prog.info? 88).map (fun i => (i.zero, i.size, i.bytes)) = some (some (.agg #[.string ⟨#[]⟩, .float .f64 0]), 2, 24) := by kernel_rfl

/-- A struct of two cells that the walk has laid at block B, above wr. -/
structure St (wr w1 : World) (t : Nat) (a q : Value) : Prop where
  obj : w1.heap[wr.heap.size]? = some (.cells #[a, q] t)
  hb : Below wr.heap.size wr w1
theorem St.size {wr w1 : World} {t : Nat} {a q : Value} (h : St wr w1 t a q) : wr.heap.size + 1 ≤ w1.heap.size := (Array.getElem?_eq_some_iff.1 h.obj).1
theorem St.new (wr : World) (t : Nat) (a q : Value) : St wr (wr.alloc (.cells #[a, q] t)) t a q := ⟨heap_alloc_new wr _, (Below.refl _ _).alloc (Nat.le_refl _) _⟩
theorem St.next {wr w1 w2 : World} {t : Nat} {a q : Value} (h : St wr w1 t a q) (hb : Below w1.heap.size w1 w2) : St wr w2 t a q :=
  ⟨(hb.block _ h.size).trans h.obj, h.hb.trans (hb.mono (by have := h.size; omega))⟩
theorem St.next2 {wr w1 w2 : World} {t n : Nat} {a q : Value} (h : St wr w1 t a q) (hb : Below n w1 w2) (hn : wr.heap.size + 1 ≤ n) : St wr w2 t a q :=
  ⟨(hb.block _ hn).trans h.obj, h.hb.trans (hb.mono (by omega))⟩
theorem St.drew {wr w1 : World} {t : Nat} {a q : Value} (h : St wr w1 t a q) (n : Nat) : St wr (w1.drewN n) t a q := ⟨h.obj, below_drewN h.hb n⟩
theorem St.cell0 {wr w1 : World} {t : Nat} {a q : Value} (h : St wr w1 t a q) : w1.cell? ⟨wr.heap.size, 0, none⟩ = some a := by rw [Lib.cell_of_heap h.obj]; rfl
theorem St.cell1 {wr w1 : World} {t : Nat} {a q : Value} (h : St wr w1 t a q) : w1.cell? ⟨wr.heap.size, 1, none⟩ = some q := by rw [Lib.cell_of_heap h.obj]; rfl
theorem St.frozen {wr w1 : World} {t : Nat} {a q : Value} (h : St wr w1 t a q) (j : Nat) : w1.frozen? ⟨wr.heap.size, j, none⟩ = false := by
  simp [World.frozen?, h.obj]
theorem St.set0 {wr w1 : World} {t : Nat} {a q : Value} (h : St wr w1 t a q) (u : Value) : St wr (w1.setCell ⟨wr.heap.size, 0, none⟩ u) t u q := by
  refine ⟨?_, h.hb.setCell (Nat.le_refl _) _⟩
  simp [World.setCell, Array.getElem?_modify, h.obj]
theorem St.set1 {wr w1 : World} {t : Nat} {a q : Value} (h : St wr w1 t a q) (u : Value) : St wr (w1.setCell ⟨wr.heap.size, 1, none⟩ u) t a u := by
  refine ⟨?_, h.hb.setCell (Nat.le_refl _) _⟩
  simp [World.setCell, Array.getElem?_modify, h.obj]

def lineB (g : List UInt8) (es : List Ent) : ByteArray := ⟨(lineL g es).toArray⟩
theorem lineB_data (g : List UInt8) (es : List Ent) : (lineB g es).data.toList = lineL g es := rfl
theorem bytes_eq {a b : ByteArray} (h : a.data.toList = b.data.toList) : a = b := Go.WideShapes.bytes_inj h
theorem ext1 {s : ByteArray} {n : Nat} {p q : List UInt8} (h : s.data.toList = p ++ q) (hn : p.length = n) : (s.extract n s.size).data.toList = q := by
  rw [Lib.extract_data, h, List.drop_append_of_le_length (by omega), ← hn, List.drop_length, List.nil_append, List.take_of_length_le]
  rw [← data_len, h, List.length_append]; omega
theorem pre_two (s : ByteArray) (x y : UInt8) (l : List UInt8) (h : s.data.toList = x :: y :: l) : preB s ⟨#[x, y]⟩ = true := by
  unfold preB
  rw [h]
  exact decide_eq_true ⟨l, rfl⟩
theorem pre_not (s : ByteArray) (c : UInt8) (l : List UInt8) (h : s.data.toList = l) (hc : l.head? ≠ some c) : preB s ⟨#[c]⟩ = false := by
  rw [pre_at s c l h]; exact decide_eq_false hc
theorem pre_yes (s : ByteArray) (c : UInt8) (l : List UInt8) (h : s.data.toList = l) (hc : l.head? = some c) : preB s ⟨#[c]⟩ = true := by
  rw [pre_at s c l h]; exact decide_eq_true hc

theorem own_snoc {w : World} {B e : Nat} {v : Value} {acc done : List Ent} {x : Ent} {q : Nat} (hq : fQ x = .float .f64 q) (h : w.ownsRow B e 2 v (acc.length + done.length + 1) (two fV fQ (acc ++ done) ++ [.string x.1, .float .f64 q])) :
    w.ownsRow B e 2 v (acc ++ (done ++ [x])).length (two fV fQ (acc ++ (done ++ [x]))) := by
  have e : (acc ++ done ++ [x]).length = acc.length + done.length + 1 := by rw [List.length_append, List.length_append]; rfl
  rw [← List.append_assoc, two_snoc, hq, e]
  exact h
theorem ends_not59 {tl : List UInt8} (h : Ends tl) : tl.head? ≠ some 59 := by
  rcases h with h | h <;> rw [h]
  · exact fun h => nomatch h
  · exact fun h => by cases h

set_option maxHeartbeats 3200000 in
set_option maxRecDepth 100000 in
theorem hdrParse (mv v : Value) (key : ByteArray) (g : List UInt8) (ess : List (List Ent)) (w : World) (hg : g = [] ∨ g = [32])
    (hlook : ∀ w', Below w.heap.size w w' → (Instr.lookup 69 mv (.string key) false).run Try.prog w' = .ok v w')
    (hv : RdC Value.string w v (ess.map (lineB g))) (hn : ess.length ≤ 2147483647) (htot : ess.flatten.length ≤ 4294967296)
    (hok : ∀ es ∈ ess, ∀ x ∈ es, EntOk x) (hsz : ∀ es ∈ ess, (lineL g es).length ≤ 9223372036854775806) :
    Calls Try.prog 49 #[mv, .string key] w fun e w' => (∃ v', e = .returned v' ∧ RdP fV fQ w' v' ess.flatten) ∧ Below w.heap.size w w' := by
  have HOK := Lib.hid hok
  have HSZ := Lib.hid hsz
  clear hok hsz
  obtain ⟨i0, hi, hz0, hz1, hz2⟩ := info_parts info_as
  obtain ⟨a, cap, b, off, rfl, hcap, hmx, ha, hc⟩ := hv
  rw [List.length_map] at hcap hlook
  unfold maxLen at hmx
  have hl0 := hlook w (Below.refl _ _)
  clear hlook
  go_enter Try.func49, Try.ntmps49
  go_wp2_with fail
  go_step3
  go_wp2_with fail
  go_step3
  go_wp2_with fail
  go_loopg [4, 12] ess.length (fun gh ov iv wr => ∃ k : Nat, k + gh = ess.length ∧ iv = .int .i64 k ∧ wr.ownsRow w.heap.size 88 2 ov (ess.take k).flatten.length (two fV fQ (ess.take k).flatten) ∧ Below w.heap.size w wr)
  case atStart => exact ⟨0, Nat.zero_add _, rfl, ⟨rfl, .inl ⟨rfl, rfl⟩⟩, Below.refl _ _⟩
  case round =>
    obtain ⟨k, hkg, rfl, hown, hb⟩ := hrel
    by_cases hlt : k < ess.length
    · obtain rfl : a = some ⟨b, off, none⟩ := by
        rcases ha with h | h
        · have h2 : (ess.map (lineB g)).length = 0 := by rw [h]; rfl
          rw [List.length_map] at h2; omega
        · exact h
      have c1 := hc k (lineB g ess[k]) (by rw [List.getElem?_map, List.getElem?_eq_getElem hlt]; rfl)
      have c1' : wr.cell? ⟨b, off + k, none⟩ = some (.string (lineB g ess[k])) := (hb.cell (p := ⟨b, off + k, none⟩) (World.block_lt_of_cell? w _ c1)).trans c1
      have hokk := HOK.out ess[k] (List.getElem_mem _)
      have hszk := HSZ.out ess[k] (List.getElem_mem _)
      have HFL : Hid ((ess.take (k + 1)).flatten = (ess.take k).flatten ++ ess[k]) := Lib.hid (by rw [List.take_succ_eq_append_getElem hlt, List.flatten_append, List.flatten_singleton])
      have HTOT : Hid ((ess.take k).flatten.length + ess[k].length ≤ 4294967296) := Lib.hid (by
        have h1 : ((ess.take (k + 1)).flatten ++ (ess.drop (k + 1)).flatten).length ≤ 4294967296 := by rw [← List.flatten_append, List.take_append_drop]; exact htot
        rw [HFL.out, List.length_append, List.length_append] at h1
        omega)
      clear hc c1
      generalize hes : ess[k] = es at *
      clear hes
      have HOKK := Lib.hid hokk
      clear hokk
      generalize hacc : (ess.take k).flatten = acc at *
      clear hacc
      obtain ⟨gr, rfl⟩ : ∃ gr, gk = gr + 1 := ⟨gk - 1, by omega⟩
      go_wp2_with fail
      go_loopg [4, 6] es.length (fun gh ov sv wx => ∃ (s : ByteArray) (done rest : List Ent), rest.length = gh ∧ sv = .string s ∧ Aside (es = done ++ rest ∧ s.data.toList = lineL g rest) ∧ s.size ≤ 9223372036854775806 ∧ wx.ownsRow w.heap.size 88 2 ov (acc ++ done).length (two fV fQ (acc ++ done)) ∧ Below w.heap.size w wx)
      case atStart => exact ⟨lineB g es, [], es, rfl, rfl, ⟨rfl, rfl⟩, by rw [← data_len]; exact hszk, by rw [List.append_nil]; exact hown, hb⟩
      case round =>
        obtain ⟨s, done, rest, rfl, rfl, HS, hs6, hownx, hbx⟩ := hrel
        cases rest with
        | nil =>
          have st := St.new wr 88 (.string ⟨#[]⟩) (.float .f64 0)
          go_wp2_with (go_at_call 57; go_must (refine (expTok s _ (by omega)).mono ?_))
          rintro e w1 ⟨⟨t, r, rfl, ht, hr⟩, hb1⟩
          have st1 := st.next hb1
          have hd0 : t.toList.isEmpty = true := by rw [Lib.toList_data, ht, HS.out.2]; rfl
          have k0 := st1.cell0
          have k1 := st1.cell1
          have f0 := st1.frozen 0
          have ST1 := Lib.hid st1
          clear st st1 ht hr
          go_wp2_with fail
          go_roundg gr
          case measure => omega
          case rel =>
            refine ⟨k + 1, by omega, by go_num, ?_, hbx.trans ((ST1.out.set0 _).hb.mono hbx.size)⟩
            rw [HFL.out, HS.out.1, List.append_nil]
            rw [List.append_nil] at *
            exact own_below hownx (ST1.out.set0 _).hb
        | cons x rest =>
          have hx : EntOk x := HOKK.out x (by rw [HS.out.1]; simp)
          have HX := Lib.hid hx
          have HLEN : Hid ((acc ++ done).length + (rest.length + 1) ≤ 4294967296) := Lib.hid (by
            have := HTOT.out
            rw [HS.out.1, List.length_append, List.length_cons] at this
            rw [List.length_append]; omega)
          have hL : s.data.toList = ent x ++ tailL g rest := HS.out.2.trans (line_cons g x rest)
          obtain ⟨e1, e2⟩ := ent_split hx.1 (tail_ends g rest)
          have st := St.new wr 88 (.string ⟨#[]⟩) (.float .f64 0)
          have HE1 := Lib.hid e1
          have HE2 := Lib.hid e2
          have HL := Lib.hid hL
          clear hx hL e1 e2
          go_wp2_with (go_at_call 57; go_must (refine (expTok s _ (by omega)).mono ?_))
          rintro e w1 ⟨⟨t, r, rfl, ht, hr⟩, hb1⟩
          have st1 := st.next hb1
          rw [HL.out, HE1.out] at ht
          rw [HL.out, HE2.out] at hr
          obtain rfl : t = x.1 := bytes_eq ht
          have hd0 : x.1.toList.isEmpty = false := by
            rw [Lib.toList_data, List.isEmpty_eq_false_iff]; exact HX.out.1.1
          have hrs : r.size ≤ 9223372036854775806 := by
            have h1 : s.size = x.1.size + r.size := by
              rw [← data_len s, ← data_len r, ← data_len x.1, hr, HL.out]
              unfold ent digL; simp only [List.length_append]; omega
            omega
          have k0 := st1.cell0
          have k1 := st1.cell1
          have f0 := st1.frozen 0
          have f1 := st1.frozen 1
          have ST1 := Lib.hid st1
          have HR := Lib.hid hr
          clear st st1 ht hr
          go_wp2_with (go_at_call 58; go_must (refine (skipSp r _ (by omega)).mono ?_))
          rintro e w2 ⟨⟨t2, rfl, ht2⟩, hb2⟩
          have ST2 := Lib.hid (((ST1.out.set0 (.string x.1)).set1 (.float .f64 4607182418800017408)).next hb2)
          rw [HR.out, skip_dig x (tail_ends g rest), ← HR.out] at ht2
          obtain rfl : t2 = r := bytes_eq ht2
          clear ht2 k0 k1 f0 f1
          by_cases hd : x.2.size = 0
          · have HQ : Hid (fQ x = .float .f64 4607182418800017408) := Lib.hid (by unfold fQ qE; rw [if_pos hd])
            have HY : Hid (t2.data.toList = tailL g rest) := Lib.hid (by rw [HR.out]; unfold digL; rw [if_pos hd]; rfl)
            have HP := Lib.hid (pre_not t2 59 _ HY.out (ends_not59 (tail_ends g rest)))
            clear hd
            go_wp2_with (go_at_call 59; go_must (refine (hasPre t2 ⟨#[59]⟩ _ (by decide) (by omega)).mono ?_))
            rintro e w3 ⟨rfl, rfl⟩
            rw [HP.out]
            have STZ := ST2
            have k0 := STZ.out.cell0
            have k1 := STZ.out.cell1
            have hzz := STZ.out.hb.size
            have hlen2 : (acc ++ done).length + 1 ≤ 4294967296 := by have := HLEN.out; omega
            go_wp2_with (at_builtin; go_must (refine wpList_append_own _ rfl _ _ 86 rfl w.heap.size 88 i0 (.agg #[.string ⟨#[]⟩, .float .f64 0]) 2 24 Try.underlying86 hi hz0 hz1 hz2 rfl (by decide) _ _ _ rfl (own_below hownx (STZ.out.hb.alloc hzz _)) ⟨(w2).heap.size, 0, none⟩ 1 1 [.string x.1, .float .f64 (4607182418800017408)] rfl rfl (cell_two_new _ _ _ _) (by intro u hu; simp at hu; rcases hu with rfl | rfl <;> rfl) (by unfold maxLen; omega) (by omega) (by have := hbx.size; simp; omega) ?_))
            intro v' w5 hown' hgrow _
            have hb5 := (hbx.trans ((STZ.out.hb.alloc hzz (.cells #[.string x.1, .float .f64 (4607182418800017408)] 88)).mono hbx.size)).grown hgrow (by have := hbx.size; simp; omega) (fun j hj => (hownx.lt j hj).1)
            have HOWN := Lib.hid (own_snoc HQ.out hown')
            clear hown' hgrow k0 k1
            go_wp2_with (go_at_call 58; go_must (refine (skipSp t2 _ (by omega)).mono ?_))
            rintro e w6 ⟨⟨t6, rfl, ht6⟩, hb6⟩
            rw [HY.out, skip_tail (tail_ends g rest), ← HY.out] at ht6
            obtain rfl : t6 = t2 := bytes_eq ht6
            clear ht6
            cases rest with
            | nil =>
              have HP := Lib.hid (pre_not t6 44 _ HY.out (by exact fun h => nomatch h))
              go_wp2_with (go_at_call 59; go_must (refine (hasPre t6 ⟨#[44]⟩ _ (by decide) (by omega)).mono ?_))
              rintro e w7 ⟨rfl, rfl⟩
              rw [HP.out]
              go_wp2_with fail
              go_roundg gr
              case measure => omega
              case rel =>
                refine ⟨k + 1, by omega, by go_num, ?_, hb5.trans (hb6.mono hb5.size)⟩
                rw [HFL.out, HS.out.1]
                exact own_below HOWN.out hb6
            | cons z rest' =>
              have HP := Lib.hid (pre_yes t6 44 _ HY.out rfl)
              have hz6 : (t6.extract 1 t6.size).size ≤ 9223372036854775806 := by rw [ByteArray.size_extract]; omega
              have HZ6 := Lib.hid (ext1 (s := t6) (n := 1) (p := [44]) (q := g ++ lineL g (z :: rest')) HY.out rfl)
              have h61 : 1 ≤ t6.size := by rw [← data_len t6, HY.out]; unfold tailL; simp
              have HZK : TokE z.1 := (HOKK.out z (by rw [HS.out.1]; simp)).1
              have HZ7 := Lib.hid HZK
              clear HZK
              go_wp2_with (go_at_call 59; go_must (refine (hasPre t6 ⟨#[44]⟩ _ (by decide) (by omega)).mono ?_))
              rintro e w7 ⟨rfl, rfl⟩
              rw [HP.out]
              go_wp2_with (go_at_call 58; go_must (refine (skipSp (t6.extract 1 t6.size) _ (by omega)).mono ?_))
              rintro e w8 ⟨⟨t8, rfl, ht8⟩, hb8⟩
              rw [HZ6.out, skip_gap hg HZ7.out] at ht8
              have HT8 := Lib.hid ht8
              have h8 : t8.size ≤ 9223372036854775806 := by
                have h1 : t6.size = 1 + g.length + t8.size := by
                  rw [← data_len t6, ← data_len t8, ht8, HY.out]; unfold tailL; simp only [List.length_append, List.length_cons]; omega
                omega
              clear ht8
              go_wp2_with fail
              go_roundg (rest'.length + 1)
              case measure => simp
              case rel =>
                refine ⟨t8, done ++ [x], z :: rest', rfl, rfl, ⟨by rw [HS.out.1]; simp, HT8.out⟩, h8, own_below (own_below HOWN.out hb6) hb8, (hb5.trans (hb6.mono hb5.size)).trans (hb8.mono (Nat.le_trans hb5.size hb6.size))⟩
          · have HQ : Hid (fQ x = .float .f64 (qOf x.2.data.toList)) := Lib.hid (by unfold fQ qE; rw [if_neg hd])
            have HD := Lib.hid (HX.out.2 hd)
            have HR2 : Hid (t2.data.toList = [59] ++ ([113, 61] ++ (x.2.data.toList ++ tailL g rest))) := Lib.hid (by rw [HR.out]; unfold digL; rw [if_neg hd]; rfl)
            have HP := Lib.hid (pre_yes t2 59 _ HR2.out rfl)
            clear hd
            have hz1s : (t2.extract 1 t2.size).size ≤ 9223372036854775806 := by rw [ByteArray.size_extract]; omega
            have h21 : 1 ≤ t2.size := by rw [← data_len t2, HR2.out]; simp
            have HZ1 := Lib.hid (ext1 (s := t2) (n := 1) HR2.out rfl)
            go_wp2_with (go_at_call 59; go_must (refine (hasPre t2 ⟨#[59]⟩ _ (by decide) (by omega)).mono ?_))
            rintro e w3 ⟨rfl, rfl⟩
            rw [HP.out]
            go_wp2_with (go_at_call 58; go_must (refine (skipSp (t2.extract 1 t2.size) _ (by omega)).mono ?_))
            rintro e w3 ⟨⟨t3, rfl, ht3⟩, hb3⟩
            have ST3 := Lib.hid (ST2.out.next hb3)
            have HT3 : Hid (t3.data.toList = [113, 61] ++ (x.2.data.toList ++ tailL g rest)) := Lib.hid (by rw [ht3, HZ1.out]; exact skip_q _)
            clear ht3
            have h3s : t3.size ≤ 9223372036854775806 := by
              have : t3.size + 1 = t2.size := by rw [← data_len t3, ← data_len t2, HT3.out, HR2.out]; simp
              omega
            have HP3 := Lib.hid (pre_two t3 113 61 _ HT3.out)
            have HZ3 := Lib.hid (ext1 (s := t3) (n := 2) HT3.out rfl)
            have hz3s : (t3.extract 2 t3.size).size ≤ 9223372036854775806 := by rw [ByteArray.size_extract]; omega
            have h32 : 2 ≤ t3.size := by rw [← data_len t3, HT3.out]; simp
            go_wp2_with (go_at_call 59; go_must (refine (hasPre t3 ⟨#[113, 61]⟩ _ (by decide) (by omega)).mono ?_))
            rintro e w4 ⟨rfl, rfl⟩
            rw [HP3.out]
            obtain ⟨qa, qd, hqi⟩ := HD.out.q
            have hpos : (FloatKind.f64.format.order (qOf x.2.data.toList) 0 == some .lt) = false := hqi.pos
            clear hqi
            go_wp2_with (go_at_call 60; go_must (refine (expQ (t3.extract 2 t3.size) _ x.2.data.toList (tailL g rest) HZ3.out (by omega) HD.out (tail_ends g rest)).mono ?_))
            rintro e w4 ⟨y, nq, rfl, hy, rfl⟩
            have HY := Lib.hid hy
            have hys : y.size ≤ 9223372036854775806 := by
              have : y.size ≤ t3.size := by rw [← data_len t3, ← data_len y, HT3.out, hy]; simp only [List.length_append]; omega
              omega
            clear hy
            have STZ := Lib.hid ((ST3.out.drew nq).set1 (.float .f64 (qOf x.2.data.toList)))
            have ST4 := Lib.hid (ST3.out.drew nq)
            have f1 := ST4.out.frozen 1
            have k0 := ST4.out.cell0
            have k1 := ST4.out.cell1
            generalize w3.drewN nq = w4 at *
            go_upto_region 13 with fail
            generalize w4.setCell ⟨wr.heap.size, 1, none⟩ (.float .f64 (qOf x.2.data.toList)) = wz at *
            clear ST4 f1 k0 k1
            have k0 := STZ.out.cell0
            have k1 := STZ.out.cell1
            have hzz := STZ.out.hb.size
            have hlen2 : (acc ++ done).length + 1 ≤ 4294967296 := by have := HLEN.out; omega
            go_wp2_with (at_builtin; go_must (refine wpList_append_own _ rfl _ _ 86 rfl w.heap.size 88 i0 (.agg #[.string ⟨#[]⟩, .float .f64 0]) 2 24 Try.underlying86 hi hz0 hz1 hz2 rfl (by decide) _ _ _ rfl (own_below hownx (STZ.out.hb.alloc hzz _)) ⟨(wz).heap.size, 0, none⟩ 1 1 [.string x.1, .float .f64 (qOf x.2.data.toList)] rfl rfl (cell_two_new _ _ _ _) (by intro u hu; simp at hu; rcases hu with rfl | rfl <;> rfl) (by unfold maxLen; omega) (by omega) (by have := hbx.size; simp; omega) ?_))
            intro v' w5 hown' hgrow _
            have hb5 := (hbx.trans ((STZ.out.hb.alloc hzz (.cells #[.string x.1, .float .f64 (qOf x.2.data.toList)] 88)).mono hbx.size)).grown hgrow (by have := hbx.size; simp; omega) (fun j hj => (hownx.lt j hj).1)
            have HOWN := Lib.hid (own_snoc HQ.out hown')
            clear hown' hgrow k0 k1
            go_wp2_with (go_at_call 58; go_must (refine (skipSp y _ (by omega)).mono ?_))
            rintro e w6 ⟨⟨t6, rfl, ht6⟩, hb6⟩
            rw [HY.out, skip_tail (tail_ends g rest), ← HY.out] at ht6
            obtain rfl : t6 = y := bytes_eq ht6
            clear ht6
            cases rest with
            | nil =>
              have HP := Lib.hid (pre_not t6 44 _ HY.out (by exact fun h => nomatch h))
              go_wp2_with (go_at_call 59; go_must (refine (hasPre t6 ⟨#[44]⟩ _ (by decide) (by omega)).mono ?_))
              rintro e w7 ⟨rfl, rfl⟩
              rw [HP.out]
              go_wp2_with fail
              go_roundg gr
              case measure => omega
              case rel =>
                refine ⟨k + 1, by omega, by go_num, ?_, hb5.trans (hb6.mono hb5.size)⟩
                rw [HFL.out, HS.out.1]
                exact own_below HOWN.out hb6
            | cons z rest' =>
              have HP := Lib.hid (pre_yes t6 44 _ HY.out rfl)
              have hz6 : (t6.extract 1 t6.size).size ≤ 9223372036854775806 := by rw [ByteArray.size_extract]; omega
              have HZ6 := Lib.hid (ext1 (s := t6) (n := 1) (p := [44]) (q := g ++ lineL g (z :: rest')) HY.out rfl)
              have h61 : 1 ≤ t6.size := by rw [← data_len t6, HY.out]; unfold tailL; simp
              have HZK : TokE z.1 := (HOKK.out z (by rw [HS.out.1]; simp)).1
              have HZ7 := Lib.hid HZK
              clear HZK
              go_wp2_with (go_at_call 59; go_must (refine (hasPre t6 ⟨#[44]⟩ _ (by decide) (by omega)).mono ?_))
              rintro e w7 ⟨rfl, rfl⟩
              rw [HP.out]
              go_wp2_with (go_at_call 58; go_must (refine (skipSp (t6.extract 1 t6.size) _ (by omega)).mono ?_))
              rintro e w8 ⟨⟨t8, rfl, ht8⟩, hb8⟩
              rw [HZ6.out, skip_gap hg HZ7.out] at ht8
              have HT8 := Lib.hid ht8
              have h8 : t8.size ≤ 9223372036854775806 := by
                have h1 : t6.size = 1 + g.length + t8.size := by
                  rw [← data_len t6, ← data_len t8, ht8, HY.out]; unfold tailL; simp only [List.length_append, List.length_cons]; omega
                omega
              clear ht8
              go_wp2_with fail
              go_roundg (rest'.length + 1)
              case measure => simp
              case rel =>
                refine ⟨t8, done ++ [x], z :: rest', rfl, rfl, ⟨by rw [HS.out.1]; simp, HT8.out⟩, h8, own_below (own_below HOWN.out hb6) hb8, (hb5.trans (hb6.mono hb5.size)).trans (hb8.mono (Nat.le_trans hb5.size hb6.size))⟩
    · have hk2 : k = ess.length := by omega
      subst hk2
      rw [List.take_length] at hown
      go_wp2_with fail
      try rw [Exit.noGoto_ret]
      go_ret
      exact ⟨⟨_, rfl, RdP.of_owns hown⟩, hb⟩
end Go.Proofs.Ytkbppaddghfgpaa
