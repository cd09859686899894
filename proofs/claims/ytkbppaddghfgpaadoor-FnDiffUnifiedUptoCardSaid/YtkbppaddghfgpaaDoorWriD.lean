/- GetUnifiedDiffString and impl.Unified. -/
import Derived.Test.YtkbppaddghfgpaaDoorWriC
set_option linter.unusedVariables false
set_option linter.unusedSimpArgs false
namespace Go.Proofs.YtkbppaddghfgpaaDoor
open Go.RowKit Go.Maps

def SaidU (l : List UInt8) (w w' : World) (e : Ending) : Prop := e = .returned (.tuple #[.string ⟨l.toArray⟩, .nilIface]) ∧ Below w.heap.size w w'

set_option maxHeartbeats 3200000 in
set_option maxRecDepth 100000 in
theorem getUnified (v1 v2 : Value) (a b : List ByteArray) (x y : ByteArray) (n : Nat) (hn : n ≤ 255) (w : World) (ht : Tab w)
    (hv1 : RdC Value.string w v1 a) (hv2 : RdC Value.string w v2 b) (ha : lets a ≤ 2097152) (hb : lets b ≤ 2097152) (hla : a.length ≤ 1048576) (hlb : b.length ≤ 1048576) (hsa : ∀ s ∈ a, s.size ≤ maxLen) (hsb : ∀ s ∈ b, s.size ≤ maxLen)
    (hx : x.size ≤ 4194304) (hy : y.size ≤ 4194304) (hx0 : x.toList.isEmpty = false) (hy0 : y.toList.isEmpty = false) :
    Calls Tryd.prog 11 #[.agg #[v1, .string x, .string ⟨#[]⟩, v2, .string y, .string ⟨#[]⟩, .string ⟨#[]⟩, .int .i64 (n : Int)]] w
      fun e w' => SaidU (uniT a b x y (grp n (edits (gmb a b (b2jL b))))) w w' e := by
  have hb1 : Below w.heap.size w (w.alloc (.cells #[v1, .string x, .string ⟨#[]⟩, v2, .string y, .string ⟨#[]⟩, .string ⟨#[]⟩, .int .i64 (n : Int)] 40)) := (Below.refl _ w).alloc (Nat.le_refl _) _
  have hs1 : (w.alloc (.cells #[v1, .string x, .string ⟨#[]⟩, v2, .string y, .string ⟨#[]⟩, .string ⟨#[]⟩, .int .i64 (n : Int)] 40)).heap.size = w.heap.size + 1 := by simp
  have hF := fresh_bld (w.alloc (.cells #[v1, .string x, .string ⟨#[]⟩, v2, .string y, .string ⟨#[]⟩, .string ⟨#[]⟩, .int .i64 (n : Int)] 40))
  have hb2 := hb1.alloc hb1.size (.cells #[.pointer none, .slice none 0 0] 56)
  have hn1 := heap_alloc_new w (.cells #[v1, .string x, .string ⟨#[]⟩, v2, .string y, .string ⟨#[]⟩, .string ⟨#[]⟩, .int .i64 (n : Int)] 40)
  have hn2 := (Below.heap_alloc (w.alloc (.cells #[v1, .string x, .string ⟨#[]⟩, v2, .string y, .string ⟨#[]⟩, .string ⟨#[]⟩, .int .i64 (n : Int)] 40)) (.cells #[.pointer none, .slice none 0 0] 56) w.heap.size (by simp)).trans hn1
  have hs2 : ((w.alloc (.cells #[v1, .string x, .string ⟨#[]⟩, v2, .string y, .string ⟨#[]⟩, .string ⟨#[]⟩, .int .i64 (n : Int)] 40)).alloc (.cells #[.pointer none, .slice none 0 0] 56)).heap.size = w.heap.size + 2 := by simp
  rw [hs1] at hF
  obtain ⟨x1, x2, x3, x4, rfl, x5⟩ := hv1
  obtain ⟨y1, y2, y3, y4, rfl, y5⟩ := hv2
  have HV1 : RdC Value.string w (.slice x1 a.length x2) a := ⟨x1, x2, x3, x4, rfl, x5⟩
  have HV2 : RdC Value.string w (.slice y1 b.length y2) b := ⟨y1, y2, y3, y4, rfl, y5⟩
  go_enter Tryd.func11, Tryd.ntmps11
  go_upto_region 2 with fail
  generalize ((w.alloc (.cells #[.slice x1 a.length x2, .string x, .string ⟨#[]⟩, .slice y1 b.length y2, .string y, .string ⟨#[]⟩, .string ⟨#[]⟩, .int .i64 (n : Int)] 40)).alloc (.cells #[.pointer none, .slice none 0 0] 56)) = w1 at *
  have hb2' : w.heap.size + 1 < w1.heap.size := by omega
  have HC := Lib.hid (writeU (w.heap.size + 1) w (.slice x1 a.length x2) (.slice y1 b.length y2) a b x y n hn w1 hb2 (by omega) hb2' hF ht HV1 HV2 ha hb hla hlb hsa hsb hx hy hx0 hy0)
  have c0 : w1.cell? ⟨w.heap.size, 0, none⟩ = some (.slice x1 a.length x2) := by rw [Lib.cell_of_heap hn2]; rfl
  have c1 : w1.cell? ⟨w.heap.size, 1, none⟩ = some (.string x) := by rw [Lib.cell_of_heap hn2]; rfl
  have c2 : w1.cell? ⟨w.heap.size, 2, none⟩ = some (.string ⟨#[]⟩) := by rw [Lib.cell_of_heap hn2]; rfl
  have c3 : w1.cell? ⟨w.heap.size, 3, none⟩ = some (.slice y1 b.length y2) := by rw [Lib.cell_of_heap hn2]; rfl
  have c4 : w1.cell? ⟨w.heap.size, 4, none⟩ = some (.string y) := by rw [Lib.cell_of_heap hn2]; rfl
  have c5 : w1.cell? ⟨w.heap.size, 5, none⟩ = some (.string ⟨#[]⟩) := by rw [Lib.cell_of_heap hn2]; rfl
  have c6 : w1.cell? ⟨w.heap.size, 6, none⟩ = some (.string ⟨#[]⟩) := by rw [Lib.cell_of_heap hn2]; rfl
  have c7 : w1.cell? ⟨w.heap.size, 7, none⟩ = some (.int .i64 (n : Int)) := by rw [Lib.cell_of_heap hn2]; rfl
  generalize hP : w.heap.size = P at *
  generalize hU : uniT a b x y (grp n (edits (gmb a b (b2jL b)))) = U at *
  have HP := Lib.hid hP
  have HU := Lib.hid hU
  clear hP hU
  clear ht HV1 HV2 hsa hsb hx0 hy0 hF hb1 hs1 hn1 hn2 x5 y5
  go_wp2_with (go_at_call 19; go_must (refine HC.out.mono ?_))
  first | rintro e w2 rfl hbl hfr | rintro e w2 ⟨rfl, hbl, hfr⟩
  have hb12 := hfr.bel
  have hsz := hfr.size
  have HS := Lib.hid (String_k (P + 1) (P + 1) U w2 hbl (by omega))
  clear hbl hfr c0 c1 c2 c3 c4 c5 c6 c7 HC
  go_wp2_with (go_at_call 20; go_must (refine HS.out.mono ?_))
  first | rintro e w3 rfl h1 h2 h3 | rintro e w3 ⟨rfl, h1, h2, h3⟩
  go_wp2_with fail
  go_ret2
  exact ⟨by rw [HU.out]; rfl, by rw [HP.out]; exact hb2.trans ((hb12.trans h2).mono (by omega))⟩

set_option maxHeartbeats 3200000 in
set_option maxRecDepth 100000 in
theorem implUnified (v1 v2 : Value) (a b : List ByteArray) (x y : ByteArray) (n : Nat) (hn : n ≤ 255) (w : World) (ht : Tab w)
    (hv1 : RdC Value.string w v1 a) (hv2 : RdC Value.string w v2 b) (ha : lets a ≤ 2097152) (hb : lets b ≤ 2097152) (hla : a.length ≤ 1048576) (hlb : b.length ≤ 1048576) (hsa : ∀ s ∈ a, s.size ≤ maxLen) (hsb : ∀ s ∈ b, s.size ≤ maxLen)
    (hx : x.size ≤ 4194304) (hy : y.size ≤ 4194304) (hx0 : x.toList.isEmpty = false) (hy0 : y.toList.isEmpty = false) :
    Calls Tryd.prog 7 #[v1, v2, .string x, .string y, .int .i64 (n : Int)] w
      fun e w' => e = .returned (.string ⟨(uniT a b x y (grp n (edits (gmb a b (b2jL b))))).toArray⟩) ∧ Below w.heap.size w w' := by
  have HC := Lib.hid (getUnified v1 v2 a b x y n hn w ht hv1 hv2 ha hb hla hlb hsa hsb hx hy hx0 hy0)
  generalize uniT a b x y (grp n (edits (gmb a b (b2jL b)))) = U at *
  obtain ⟨x1, x2, x3, x4, rfl, x5⟩ := hv1
  obtain ⟨y1, y2, y3, y4, rfl, y5⟩ := hv2
  clear ht x5 y5 hsa hsb hx0 hy0
  go_enter Tryd.func7, Tryd.ntmps7
  go_wp2_with (go_at_call 11; go_must (refine HC.out.mono ?_))
  rintro e w2 ⟨rfl, hb2⟩
  go_wp2_with fail
  go_ret
  exact ⟨rfl, hb2⟩
end Go.Proofs.YtkbppaddghfgpaaDoor
