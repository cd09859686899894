/- What stands of the program's variables, out of what a row lists. -/
import Derived.Test.YtojlpfakdodnfaaGreatDoorMet2
import Derived.Lib.LaidU8T
import Derived.PinnedBridge
import Derived.MakeChecks
set_option linter.unusedVariables false
set_option linter.unusedSimpArgs false
namespace Go.Proofs.YtojlpfakdodnfaaGreatDoor
open Go.RowKit Go.Lib Go.Shelf

theorem iface_of {P : Program} {w : World} {n : String} {nm : String} {d : DataW Unit} {g t : Nat} {ms : Array (String × TypeId)} (h : VarReads P w n (.iface nm d)) (hg : P.globalNamed n = some g) (ht : (P.globals[g]?).map (·.type) = some t) (hu : P.underlying t = some (.interface ms)) :
    ∃ u x, w.cell? ⟨g, 0, none⟩ = some (.iface u x) := by
  obtain ⟨g', t', cs, fuel, p, hg', ht', hvar, hd⟩ := h
  obtain rfl := Option.some.inj (hg.symm.trans hg')
  obtain rfl := Option.some.inj (ht.symm.trans ht')
  have hc := World.var?_cell hg hvar 0
  cases fuel with
  | zero => simp [DataW.trod] at hd
  | succ f =>
    obtain ⟨l⟩ := cs
    unfold DataW.trod at hd
    simp only [hu] at hd
    match l, hd, hc with
    | [], hd, _ => simp at hd
    | [c], hd, hc =>
      cases c <;> simp at hd
      exact ⟨_, _, by rw [hc]; rfl⟩
    | a :: b :: r, hd, _ => cases a <;> simp at hd
theorem byte_of {P : Program} {w : World} {n : String} {g t e : Nat} (h : VarReads P w n (.slice [.lit (.int .u8 255)] [])) (hg : P.globalNamed n = some g) (ht : (P.globals[g]?).map (·.type) = some t) (hu : P.underlying t = some (.slice e)) (he : P.underlying e = some (.int .u8)) (hn : P.cellsOf e = 1) :
    ∃ b off c, w.cell? ⟨g, 0, none⟩ = some (.slice (some ⟨b, off, none⟩) 1 c) ∧ w.cell? ⟨b, off, none⟩ = some (.int .u8 255) := by
  obtain ⟨g', t', cs, fuel, p, hg', ht', hvar, hd⟩ := h
  obtain rfl := Option.some.inj (hg.symm.trans hg')
  obtain rfl := Option.some.inj (ht.symm.trans ht')
  have hc := World.var?_cell hg hvar 0
  rcases DataW.trod_slice hu hd with ⟨_, h2⟩ | ⟨a, len, cap, elems, rest, m, _, hcs, hx, _, _, _, hlen, hel, _, _⟩
  · cases h2
  · have h1 : elems.map (·.1) = [.lit (.int .u8 255)] := by injection hx with hx _; injection hx with hx _; exact hx.symm
    have hl1 : len = 1 := by rw [← hlen, ← List.length_map (f := (·.1)), h1]; rfl
    subst hl1
    have h3 := hel 0 (by omega)
    match elems, h1, h3 with
    | [y], h1, h3 =>
      rw [hn] at h3
      obtain ⟨xs, h4, h5⟩ := Option.bind_eq_some_iff.1 h3
      obtain ⟨_, hxl, hcell⟩ := World.cells?_some h4
      obtain ⟨b, off, spot⟩ := a
      have h6 := hcell 0 (by omega)
      have h7 : ((⟨b, off, spot⟩ : Addr).add (0 * 1)).add 0 = ⟨b, off, spot⟩ := by simp [Addr.add]
      rw [h7] at h6
      match xs, hxl with
      | [u], _ =>
        have hspot : spot = none := World.cell?_spot (h6.trans rfl)
        subst hspot
        obtain ⟨z, hz, hy, _⟩ := DataW.trod_int he h5
        injection hz with hz
        subst hz
        simp only [List.map_cons, List.map_nil, List.cons.injEq, and_true] at h1
        rw [hy] at h1
        injection h1 with h1
        injection h1 with _ h1
        subst h1
        obtain ⟨l⟩ := cs
        simp only at hcs
        subst hcs
        exact ⟨b, off, cap, by rw [hc]; rfl, h6⟩
theorem gErr : Tryz.prog.globalNamed "pub-dialplate/pub/clientgolang/prometheus.errInconsistentCardinality" = some 1 := by kernel_rfl
theorem gSep : Tryz.prog.globalNamed "pub-dialplate/pub/clientgolang/prometheus.separatorByteSlice" = some 2 := by kernel_rfl
theorem gErrT : (Tryz.prog.globals[1]?).map (·.type) = some 55 := by kernel_rfl
theorem gSepT : (Tryz.prog.globals[2]?).map (·.type) = some 96 := by kernel_rfl
theorem cellsU8 : Tryz.prog.cellsOf 5 = 1 := by kernel_rfl
theorem acceptEq : (Rows.laid_unicode_utf8_acceptRanges : DataW Unit) = acceptData := by kernel_rfl
/-- The five variables stand. -/
theorem vars_of {l : List (String × DataW Unit)} {W : World} (hl : l = [("unicode/utf8.acceptRanges", Rows.laid_unicode_utf8_acceptRanges), ("pub-dialplate/pub/clientgolang/prometheus.errInconsistentCardinality", Rows.laid_pub_dialplate_pub_clientgolang_prometheus_errInconsistentCardinality), ("pub-dialplate/pub/clientgolang/prometheus.separatorByteSlice", Rows.laid_pub_dialplate_pub_clientgolang_prometheus_separatorByteSlice), ("pub-dialplate/pub/clientgolang/prometheus.V2", Rows.laid_pub_dialplate_pub_clientgolang_prometheus_V2), ("unicode/utf8.first", Rows.laid_unicode_utf8_first)])
    (h : laidMet Tryz.prog l W) : Vars W := by
  subst hl
  have r1 := laidMet.reads h (.head _)
  have r2 := laidMet.reads h (.tail _ (.head _))
  have r3 := laidMet.reads h (.tail _ (.tail _ (.head _)))
  have r5 := laidMet.reads h (.tail _ (.tail _ (.tail _ (.tail _ (.head _)))))
  rw [acceptEq] at r1
  have r5' : VarReads Tryz.prog W "unicode/utf8.first" firstData := by
    have e : Rows.laid_unicode_utf8_first = firstData := Pinned.utf8First_eq
    rw [← e]; exact r5
  refine ⟨utf8Tabs_of_readsT (U8Types.of196 Tryz.laysValid) ⟨by kernel_rfl, by kernel_rfl, by kernel_rfl, by kernel_rfl, by kernel_rfl, by kernel_rfl, by kernel_rfl⟩ r5' r1, ?_, ?_⟩
  · exact iface_of r2 gErr gErrT Tryz.underlying55
  · exact byte_of r3 gSep gSepT Tryz.underlying96 Tryz.underlying5 cellsU8
end Go.Proofs.YtojlpfakdodnfaaGreatDoor
