/- The reference's blocks, recursively. -/
import Derived.Test.YtkbppaddghfgpaaDif15
import Derived.Laws.AppendOwnNone
set_option linter.unusedVariables false
set_option linter.unusedSimpArgs false
namespace Go.Proofs.Ytkbppaddghfgpaa
open Go.RowKit Go.Maps

theorem fore_max {a b : List ByteArray} {alo ahi blo bhi x y kk : Nat} (hb : Blk a b alo ahi blo bhi x y kk) : ∀ f n, ahi ≤ f + n → n ≤ kk → kk ≤ foreF a b ahi bhi x y f n
  | 0, n, hf, hn => by have := hb.2.1; unfold foreF; omega
  | f + 1, n, hf, hn => by
    obtain ⟨g1, g2, g3, g4, g5⟩ := hb
    unfold foreF
    rcases Nat.lt_or_ge n kk with h | h
    · rw [if_pos ⟨by omega, by omega, g5 n h⟩]
      exact fore_max ⟨g1, g2, g3, g4, g5⟩ f (n + 1) (by omega) (by omega)
    · split
      · have : n + 1 ≤ foreF a b ahi bhi x y f (n + 1) := by
          have key : ∀ f n, n ≤ foreF a b ahi bhi x y f n := by
            intro f
            induction f with
            | zero => intro n; exact Nat.le_refl _
            | succ f ih =>
              intro n
              unfold foreF
              split
              · exact Nat.le_trans (Nat.le_succ n) (ih (n + 1))
              · exact Nat.le_refl _
          exact key f (n + 1)
        omega
      · omega
/-- The best of the starts that have been looked at: rows below k, and of row k the columns below q. -/
structure DlOk (a b : List ByteArray) (alo ahi blo bhi k q : Nat) (s : Tri) : Prop where
  z : s.2.2 = 0 → s.1 = alo ∧ s.2.1 = blo
  p : 0 < s.2.2 → Blk a b alo ahi blo bhi s.1 s.2.1 s.2.2 ∧ (s.1 < alo + k ∨ (s.1 = alo + k ∧ s.2.1 < blo + q))
  all : ∀ x y kk, Blk a b alo ahi blo bhi x y kk → (x < alo + k ∨ (x = alo + k ∧ y < blo + q)) → kk ≤ s.2.2 ∧ (kk = s.2.2 → 0 < s.2.2 → s.1 < x ∨ (s.1 = x ∧ s.2.1 ≤ y))
theorem dlRow_ok {a b : List ByteArray} {alo ahi blo bhi k : Nat} {s : Tri} (hk : alo + k < ahi) (hs : DlOk a b alo ahi blo bhi k 0 s) : ∀ q, blo + q ≤ bhi → DlOk a b alo ahi blo bhi k q (dlRow a b ahi blo bhi (alo + k) s q)
  | 0, _ => hs
  | q + 1, hq => by
    have ih := dlRow_ok hk hs q (by omega)
    show DlOk a b alo ahi blo bhi k (q + 1) (dlStep a b ahi bhi (alo + k) (dlRow a b ahi blo bhi (alo + k) s q) (blo + q))
    generalize dlRow a b ahi blo bhi (alo + k) s q = S at *
    have h0 : Blk a b alo ahi blo bhi (alo + k) (blo + q) 0 := ⟨by omega, by omega, by omega, by omega, fun t ht => by omega⟩
    have hR := fore_blk ahi 0 h0
    have hM : ∀ kk, Blk a b alo ahi blo bhi (alo + k) (blo + q) kk → kk ≤ foreF a b ahi bhi (alo + k) (blo + q) ahi 0 := fun kk h => fore_max h ahi 0 (by omega) (Nat.zero_le _)
    unfold dlStep
    generalize foreF a b ahi bhi (alo + k) (blo + q) ahi 0 = R at *
    split
    · rename_i hlt
      refine ⟨fun h => by simp only at h; omega, fun _ => ⟨hR, .inr ⟨rfl, by simp only; omega⟩⟩, fun x y kk hb hd => ?_⟩
      simp only
      by_cases hxy : x = alo + k ∧ y = blo + q
      · obtain ⟨rfl, rfl⟩ := hxy
        exact ⟨hM kk hb, fun _ _ => .inr ⟨rfl, Nat.le_refl _⟩⟩
      · have := (ih.all x y kk hb (by omega)).1
        exact ⟨by omega, fun h1 h2 => by omega⟩
    · rename_i hlt
      refine ⟨ih.z, fun h => ⟨(ih.p h).1, by have := (ih.p h).2; omega⟩, fun x y kk hb hd => ?_⟩
      by_cases hxy : x = alo + k ∧ y = blo + q
      · obtain ⟨rfl, rfl⟩ := hxy
        have h1 := hM kk hb
        refine ⟨by omega, fun h2 h3 => ?_⟩
        have := (ih.p h3).2
        omega
      · exact ih.all x y kk hb (by omega)
theorem dlRun_ok {a b : List ByteArray} {alo ahi blo bhi : Nat} (hbb : blo ≤ bhi) : ∀ k, alo + k ≤ ahi → DlOk a b alo ahi blo bhi k 0 (dlRun a b alo ahi blo bhi k)
  | 0, _ => ⟨fun _ => ⟨rfl, rfl⟩, fun h => absurd h (by simp [dlRun]), fun x y kk hb hd => by have := hb.1; have := hb.2.2.1; omega⟩
  | k + 1, hk => by
    have h := dlRow_ok (a := a) (b := b) (k := k) (show alo + k < ahi by omega) (dlRun_ok hbb k (by omega)) (bhi - blo) (by omega)
    show DlOk a b alo ahi blo bhi (k + 1) 0 (dlRow a b ahi blo bhi (alo + k) (dlRun a b alo ahi blo bhi k) (bhi - blo))
    refine ⟨h.z, fun h0 => ⟨(h.p h0).1, by have := (h.p h0).2; omega⟩, fun x y kk hb hd => ?_⟩
    have hb3 := hb.2.2.1
    by_cases hy : y < bhi
    · exact h.all x y kk hb (by omega)
    · have : kk = 0 := by have := hb.2.2.2.1; omega
      subst this
      exact ⟨Nat.zero_le _, fun h1 h2 => by omega⟩
theorem dl_eq {a b : List ByteArray} {alo ahi blo bhi : Nat} (haa : alo ≤ ahi) (hah : ahi ≤ a.length) (hbb : blo ≤ bhi) (hbh : bhi ≤ b.length) : dl a b alo ahi blo bhi = flm a b (idxL b) alo ahi blo bhi := by
  have h := dlRun_ok (a := a) (b := b) (alo := alo) (ahi := ahi) hbb (ahi - alo) (by omega)
  have h1 : Best a b alo ahi blo bhi (dl a b alo ahi blo bhi).1 (dl a b alo ahi blo bhi).2.1 (dl a b alo ahi blo bhi).2.2 := by
    refine ⟨h.z, fun h0 => (h.p h0).1, fun x y kk hb => ?_⟩
    have hb3 := hb.1
    by_cases hx : x < ahi
    · exact h.all x y kk hb (.inl (by omega))
    · have : kk = 0 := by have := hb.2.1; omega
      subst this
      exact ⟨Nat.zero_le _, fun h1 h2 => absurd h1.symm (Nat.ne_of_gt h2)⟩
  have h2 := flm_best (a := a) (b := b) (L := idxL b) (fun _ => rfl) haa hah hbb hbh
  obtain ⟨e1, e2, e3⟩ := best_one h1 h2
  exact Prod.ext e1 (Prod.ext e2 e3)
theorem mb_open {F : Nat → Nat → Nat → Nat → Tri} {la lb : Nat} (hF : FOk F la lb) {f alo ahi blo bhi : Nat} (h1 : alo ≤ ahi) (h2 : ahi ≤ la) (h3 : blo ≤ bhi) (h4 : bhi ≤ lb) (h : 0 < (F alo ahi blo bhi).2.2) (hf : 0 < f) : mbF F f alo ahi blo bhi =
    mbF F (f - 1) alo (F alo ahi blo bhi).1 blo (F alo ahi blo bhi).2.1 ++ F alo ahi blo bhi :: mbF F (f - 1) ((F alo ahi blo bhi).1 + (F alo ahi blo bhi).2.2) ahi ((F alo ahi blo bhi).2.1 + (F alo ahi blo bhi).2.2) bhi := by
  obtain ⟨g1, g2, g3, g4⟩ := hF alo ahi blo bhi h1 h2 h3 h4
  have empty : ∀ f alo' ahi' blo' bhi', alo' ≤ ahi' → ahi' ≤ la → blo' ≤ bhi' → bhi' ≤ lb → (alo' = ahi' ∨ blo' = bhi') → mbF F f alo' ahi' blo' bhi' = [] := by
    intro f alo' ahi' blo' bhi' q1 q2 q3 q4 q5
    refine mb_zero F f _ _ _ _ ?_
    obtain ⟨r1, r2, r3, r4⟩ := hF alo' ahi' blo' bhi' q1 q2 q3 q4
    omega
  rw [mb_pos F f alo ahi blo bhi h hf]
  congr 1
  · split
    · rfl
    · exact (empty _ _ _ _ _ (by omega) (by omega) (by omega) (by omega) (by omega)).symm
  · congr 1
    split
    · rfl
    · exact (empty _ _ _ _ _ (by omega) (by omega) (by omega) (by omega) (by omega)).symm
theorem own_mono {w : World} {B B' e size n : Nat} {v : Value} {xs : List Value} (h : w.ownsRow B e size v n xs) (hB : B' ≤ B) : w.ownsRow B' e size v n xs := by
  refine ⟨h.1, h.2.imp id ?_⟩
  rintro ⟨g, cap, cur, rfl, h1, h2, h3⟩
  exact ⟨g, cap, cur, rfl, by omega, h2, h3⟩
theorem thr_one (ts : List Tri) : ∀ u ∈ thr ts, u.oneCell' = true := by
  intro u hu
  unfold thr at hu
  obtain ⟨t, _, ht⟩ := List.mem_flatMap.1 hu
  simp at ht
  rcases ht with rfl | rfl | rfl <;> rfl
theorem own_form {w : World} {B e n : Nat} {v : Value} {ts : List Tri} (h : w.ownsRow B e 3 v n (thr ts)) : (v = .slice none 0 0 ∧ ts = []) ∨ ∃ g cap, v = .slice (some ⟨g, 0, none⟩) ts.length cap ∧ ∀ j u, (thr ts)[j]? = some u → w.cell? ((⟨g, 0, none⟩ : Addr).add j) = some u := by
  obtain ⟨hl, h⟩ := h
  rw [thr_len] at hl
  have hn : ts.length = n := by omega
  rcases h with ⟨rfl, rfl⟩ | ⟨g, cap, cur, rfl, hb, hg, hc, hm, hs, ht⟩
  · exact .inl ⟨rfl, List.eq_nil_of_length_eq_zero hn⟩
  · refine .inr ⟨g, cap, by rw [hn], fun j u hu => ?_⟩
    have hj : j < n * 3 := by
      have := (List.getElem?_eq_some_iff.1 hu).1
      rw [thr_len] at this
      omega
    have e : (⟨g, 0, none⟩ : Addr).add j = ⟨g, j, none⟩ := by
      simp [Addr.add]
      intro h0; exact h0.symm
    rw [e, Lib.cell_of_heap hg]
    have h2 : (cur.toList.take (n * 3))[j]? = some u := by rw [ht]; exact hu
    rw [List.getElem?_take_of_lt hj] at h2
    rwa [Array.getElem?_toList] at h2
theorem info_arr : (Try.prog.info? 44).map (fun i => (i.zero, i.size, i.bytes)) = some (some (.agg #[.int .i64 0, .int .i64 0, .int .i64 0]), 3, 24) := by kernel_rfl
theorem thr_app (xs ys : List Tri) : thr (xs ++ ys) = thr xs ++ thr ys := by simp [thr]

set_option maxHeartbeats 3200000 in
set_option maxRecDepth 100000 in
theorem specBlk {a b : List ByteArray} (v1 v2 : Value) (hla : a.length ≤ 2147483647) (hlb : b.length ≤ 2147483647) :
    ∀ (f alo ahi blo bhi : Nat) (w : World), RdC Value.string w v1 a → RdC Value.string w v2 b → alo ≤ ahi → ahi ≤ a.length → blo ≤ bhi → bhi ≤ b.length → ahi - alo ≤ f →
    Calls Try.prog 37 #[v1, v2, .int .i64 (alo : Int), .int .i64 (ahi : Int), .int .i64 (blo : Int), .int .i64 (bhi : Int)] w
      fun e w' => (∃ mv, e = .returned mv ∧ w'.ownsRow w.heap.size 44 3 mv (mbF (flm a b (idxL b)) f alo ahi blo bhi).length (thr (mbF (flm a b (idxL b)) f alo ahi blo bhi))) ∧ Below w.heap.size w w' := by
  have hF : FOk (flm a b (idxL b)) a.length b.length := flm_ok (fun v j h => (mem_idx b).1 h)
  have HF := Lib.hid hF
  have HLEN := Lib.hid (mb_len hF)
  obtain ⟨i0, hi, hz0, hz1, hz2⟩ := info_parts info_arr
  clear hF
  intro f
  induction f using Nat.strongRecOn with
  | _ f ih =>
    intro alo ahi blo bhi w hv1 hv2 haa hah hbb hbh hf
    have IH := Lib.hid ih
    have HV1 := Lib.hid hv1
    have HV2 := Lib.hid hv2
    have hFK := HF.out alo ahi blo bhi haa hah hbb hbh
    have hcall := specLongest v1 v2 a b alo ahi blo bhi w hv1 hv2 haa hah hbb hbh hla hlb
    rw [dl_eq haa hah hbb hbh] at hcall
    have HC := Lib.hid hcall
    have hs1 : ∃ x l c, v1 = .slice x l c := by obtain ⟨x, y, _, _, h, _⟩ := hv1; exact ⟨x, _, y, h⟩
    have hs2 : ∃ x l c, v2 = .slice x l c := by obtain ⟨x, y, _, _, h, _⟩ := hv2; exact ⟨x, _, y, h⟩
    clear ih hv1 hv2 hcall
    obtain ⟨x1, x2, x3, rfl⟩ := hs1
    obtain ⟨y1, y2, y3, rfl⟩ := hs2
    have HZ := Lib.hid (mb_zero (flm a b (idxL b)) f alo ahi blo bhi)
    have HP := Lib.hid (fun h => mb_open HF.out (f := f) haa hah hbb hbh h)
    generalize flm a b (idxL b) alo ahi blo bhi = t at *
    obtain ⟨i, j, k⟩ := t
    simp only at hFK HZ HP HC
    obtain ⟨g1, g2, g3, g4⟩ := hFK
    go_enter Try.func37, Try.ntmps37
    go_wp2_with (go_at_call 51; go_must (refine HC.out.mono ?_))
    rintro e w1 ⟨rfl, hb1⟩
    by_cases h0 : k = 0
    · have h0' : ((k : Int) == 0) = true := by simp; omega
      have HH := Lib.hid h0
      clear h0
      go_wp2_with fail
      go_ret
      refine ⟨⟨_, rfl, ?_⟩, hb1⟩
      rw [HZ.out HH.out]
      exact World.ownsRow_nil _ _ _ _
    · have h0' : ((k : Int) == 0) = false := by simp; omega
      have hff : 0 < f := by omega
      have HP' := Lib.hid (HP.out (by omega) hff)
      have hc1 := IH.out (f - 1) (by omega) alo i blo j w1 (HV1.out.below hb1) (HV2.out.below hb1) (by omega) (by omega) (by omega) (by omega) (by omega)
      have HC1 := Lib.hid hc1
      clear hc1
      go_wp2_with (go_at_call 37; go_must (refine HC1.out.mono ?_))
      rintro e w2 ⟨⟨mv, rfl, ho2⟩, hb2⟩
      have hl1 := HLEN.out (f - 1) alo i blo j (by omega) (by omega) (by omega) (by omega)
      have hl2 := HLEN.out (f - 1) (i + k) ahi (j + k) bhi (by omega) (by omega) (by omega) (by omega)
      have hb12 := hb1.trans (hb2.mono hb1.size)
      have ho2' := own_mono ho2 hb1.size
      clear ho2 HC1
      generalize mbF (flm a b (idxL b)) (f - 1) alo i blo j = ls at *
      have hsz2 := hb12.size
      go_wp2_with (at_builtin; go_must (refine wpList_append_own_at _ rfl _ _ 39 rfl w.heap.size 44 i0 (.agg #[.int .i64 0, .int .i64 0, .int .i64 0]) 3 24 Try.underlying39 hi hz0 hz1 hz2 rfl (by decide) _ _ _ rfl (own_below3 ho2' ((Below.refl _ w2).alloc (Nat.le_refl _) _)) ⟨w2.heap.size, 0, none⟩ 1 1 [.int .i64 (i : Int), .int .i64 (j : Int), .int .i64 (k : Int)] rfl rfl (cell_three _ _ _ _ _ _ (heap_alloc_new _ _)) (by intro u hu; simp at hu; rcases hu with rfl | rfl | rfl <;> rfl) (by unfold maxLen; omega) (by omega) (by simp; omega) ?_))
      intro v3 w3 ho3' hg3 _ hloc3
      have hb3 := ((hb12.alloc hsz2 _).grown hg3 (by simp; omega) (fun q hq => (ho2'.lt q hq).1))
      have ho3 : w3.ownsRow w.heap.size 44 3 v3 (ls.length + 1) (thr (ls ++ [(i, j, k)])) := by rw [thr_snoc]; exact ho3'
      clear ho3' hg3 hloc3 ho2'
      have hc2 := IH.out (f - 1) (by omega) (i + k) ahi (j + k) bhi w3 (HV1.out.below hb3) (HV2.out.below hb3) (by omega) (by omega) (by omega) (by omega) (by omega)
      have HC2 := Lib.hid hc2
      clear hc2
      have hs1 : IntKind.i64.wrap ((i : Int) + (k : Int)) = (i : Int) + (k : Int) := IntWalk.i64_in _ ⟨by omega, by omega⟩
      have hs2 : IntKind.i64.wrap ((j : Int) + (k : Int)) = (j : Int) + (k : Int) := IntWalk.i64_in _ ⟨by omega, by omega⟩
      go_wp2_with (go_at_call 37; go_must (refine HC2.out.mono ?_))
      rintro e w4 ⟨⟨rv, rfl, ho4⟩, hb4⟩
      have hb34 := hb3.trans (hb4.mono hb3.size)
      have ho5 := own_below3 ho3 hb4
      generalize mbF (flm a b (idxL b)) (f - 1) (i + k) ahi (j + k) bhi = rs at *
      have hfin : (ls ++ [(i, j, k)]) ++ rs = mbF (flm a b (idxL b)) f alo ahi blo bhi := by rw [HP'.out]; simp
      have hsz4 := hb34.size
      rcases own_form ho4 with ⟨rfl, hrs⟩ | ⟨g, cap, rfl, hcells⟩
      · have hfin2 : ls ++ [(i, j, k)] = mbF (flm a b (idxL b)) f alo ahi blo bhi := by rw [← hfin, hrs, List.append_nil]
        have HFN := Lib.hid hfin2
        clear hfin hrs hfin2 ho4
        go_wp2_with (at_builtin; go_must (refine wpList_append_own_none rfl _ _ 39 rfl w.heap.size 44 i0 3 Try.underlying39 hi _ _ _ rfl ho5 rfl ?_))
        go_wp2_with fail
        go_ret
        refine ⟨⟨_, rfl, ?_⟩, hb34⟩
        rw [← HFN.out, List.length_append]
        exact ho5
      · have HFN := Lib.hid hfin
        have HCE := Lib.hid hcells
        clear hfin hcells
        go_wp2_with (at_builtin; go_must (refine wpList_append_own_at _ rfl _ _ 39 rfl w.heap.size 44 i0 (.agg #[.int .i64 0, .int .i64 0, .int .i64 0]) 3 24 Try.underlying39 hi hz0 hz1 hz2 rfl (by decide) _ _ _ rfl ho5 ⟨g, 0, none⟩ rs.length cap (thr rs) rfl (thr_len rs) HCE.out (thr_one rs) (by unfold maxLen; omega) (by omega) (by omega) ?_))
        intro v6 w6 ho6 hg6 _ _
        have hb6 := hb34.grown hg6 (by omega) (fun q hq => (ho5.lt q hq).1)
        go_wp2_with fail
        go_ret
        refine ⟨⟨_, rfl, ?_⟩, hb6⟩
        rw [← HFN.out, thr_app, List.length_append, List.length_append]
        exact ho6
end Go.Proofs.Ytkbppaddghfgpaa
