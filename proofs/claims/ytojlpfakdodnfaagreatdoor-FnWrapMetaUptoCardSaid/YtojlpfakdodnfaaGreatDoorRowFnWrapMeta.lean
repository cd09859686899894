/- FnWrapMeta: where the arguments and the listed variables are together of bulk at most 1048576, the law returns true: wrapping a plain descriptor with a prefix with which its name is plain, and with plain label names and printable values, is refused exactly where a label is there already; else the wrapped descriptor has the prefix before its name, the same help and variable labels, no unit, and the labels among its constant labels. Condition: the bulk; the five listed variables stand as the program's text lays them (the card ties them to the pruned copy of the text, and says nothing of other packages). -/
import Derived.Test.YtojlpfakdodnfaaGreatDoorLawWM
import Derived.Test.YtojlpfakdodnfaaGreatDoorRdV
import Derived.Test.YtojlpfakdodnfaaGreatDoorOpM
import Derived.Test.YtojlpfakdodnfaaGreatDoorOpS
import Derived.Test.YtojlpfakdodnfaaGreatDoorCards
import Derived.Test.YtojlpfakdodnfaaGreatDoorTie
import Derived.WalkKit
import Derived.ProofKit
import Derived.OpenShut
import Derived.ShutString
import Derived.ChangeOld
import Derived.Below
import Derived.LaidSub
import Derived.MakeChecks
import Derived.Deep.DeepHandedRow
import Derived.Deep.DeepWitnessRowRef
import Derived.Lib.LaidIn
namespace Go.Proofs.YtojlpfakdodnfaaGreatDoor.fnWrapMeta
open Go.ChangeShapes Go.WideShapes Go.ChangeAt Go.RowKit Go.Lib
open Go.ChangeMaps (open_string shut_string)
set_option linter.unusedVariables false

theorem own : ownKnob Tryz.prog.godebug = none := by kernel_rfl
theorem laidOut : laidOutB Tryz.prog = true := by kernel_rfl
/-- A world for the witness: the settled one with two blocks more, the variables holding what their initialisers lay. -/
noncomputable def laidWorld (os : Os) : World :=
  let N := (World.settled Tryz.prog os).heap.size
  let w0 := World.holding Tryz.prog os ⟨#[.cells #[.string ⟨#[105, 110, 99, 111, 110, 115, 105, 115, 116, 101, 110, 116, 32, 108, 97, 98, 101, 108, 32, 99, 97, 114, 100, 105, 110, 97, 108, 105, 116, 121]⟩] 125, .cells #[.int .u8 255] 5], #[], []⟩
  let put (h : Array Obj) (g : Nat) (cs : Array Value) : Array Obj := h.modify g fun
    | .cells _ t frozen => .cells cs t frozen
    | o => o
  let h1 := put w0.heap 3 (Lib.firstTab.map fun z => Value.int .u8 z).toArray
  let h2 := put h1 4 ((List.range 16).flatMap fun i => [Value.int .u8 (Lib.accLo i), Value.int .u8 (Lib.accHi i)]).toArray
  let h3 := put h2 1 #[.iface 123 (.pointer (some ⟨N, 0, none⟩))]
  let h4 := put h3 2 #[.slice (some ⟨N + 1, 0, none⟩) 1 1]
  { w0 with heap := h4 }
noncomputable abbrev N0 : Nat := (World.settled Tryz.prog default).heap.size
abbrev noArgs : Array Value := #[.agg #[.string ByteArray.empty, .string ByteArray.empty, .string ByteArray.empty, .slice none 0 0, .slice none 0 0], .string ByteArray.empty, .slice none 0 0]
theorem laid_met (os : Os) : laidMet Tryz.prog Rows.fnWrapMetaUptoRow.laid ((laidWorld os).forCall (fun _ _ => 0) ⟨#[], noArgs, []⟩).memory :=
  (LaidIn.of_run (l := Rows.fnWrapMetaUptoRow.laid) [4, 1, N0, 2, N0 + 1, 0, 3] 8 (by kernel_rfl) (by kernel_rfl) (by kernel_rfl) (by kernel_rfl)).met
theorem reads (os : Os) {H : Type} (enc : TypeId × Value → H) : ∃ places, DataW.whole enc Tryz.prog ((laidWorld os).forCall (fun _ _ => 0) ⟨#[], noArgs, []⟩).memory Tryz.f6.params.toList Rows.fnWrapMetaSpec.vars false noArgs.toList 8 = some ([.agg [.lit (.string []), .lit (.string []), .lit (.string []), .nil, .nil], .lit (.string []), .nil], [], places) :=
  ⟨[], by kernel_rfl⟩

set_option maxRecDepth 100000 in
theorem lifted (os : Os) (started : os.Started) (H : Type) (enc : TypeId × Value → H) (F : Stop.Interp) :
    ReturnsInHanded {} Tryz.checked os 6 .any ((Rows.OpenSpec.upto Rows.fnWrapMetaSpec).preRow enc Tryz.prog Tryz.f6 Rows.fnWrapMetaUptoRow.domain false Rows.fnWrapMetaUptoRow.laid) (((Rows.OpenSpec.upto Rows.fnWrapMetaSpec).at F).post enc Tryz.prog Tryz.f6 false true false false) := by
  obtain ⟨places, hx⟩ := reads os enc
  refine returnsInHanded_of_row (C := Tryz.checked) (s := Rows.OpenSpec.upto Rows.fnWrapMetaSpec) own started (by kernel_rfl) Tryz.func6
    (witness_row_atRef (enc := enc) (C := Tryz.checked) false (laidWorld os) noArgs rfl (by kernel_rfl) (by kernel_rfl) (by kernel_rfl)
      (OpenSpec.preRow_of_cond 8 hx (by kernel_rfl) (fun k hk => by cases hk; kernel_rfl) (by kernel_rfl) (laid_met os))) ?_
  intro W base args ds gs before hval0 hW _ hcond _ hL _ _
  have hVars : Vars W := vars_of (l := Rows.fnWrapMetaUptoRow.laid) rfl (by rw [MakeChecks.laidMetH_plain _ _ _ (by kernel_rfl)] at hL; exact hL)
  have hval : ∀ (j : Nat) t v, Tryz.f6.params[j]? = some t → args[j]? = some v → Value.okWide Tryz.prog W .any base t v := hval0
  have hW' := hW
  obtain ⟨p, q, hA0, hV, rfl, hfz, hnd⟩ := hW
  have hA : DataW.TrodAll enc Tryz.prog W 0 (fun _ => true) true Tryz.f6.params.toList args.toList ds p := hA0
  rw [Tryz.params6] at hA hval
  obtain ⟨v0, vs0, d0, ds0, p0, q0, hargs, rfl, rfl, h0, r0⟩ := trodAll_cons hA
  obtain ⟨v1, vs1, d1, ds1, p1, q1, rfl, rfl, rfl, h1, r1⟩ := trodAll_cons r0
  obtain ⟨v2, vs2, d2, ds2, p2, q2, rfl, rfl, rfl, h2, r2⟩ := trodAll_cons r1
  obtain ⟨rfl, rfl, rfl⟩ := trodAll_nil r2
  obtain rfl : args = #[v0, v1, v2] := by cases args; simp_all
  obtain ⟨rfl, rfl⟩ := trodVars_none hV
  have hbulk := of_decide_eq_true (hcond _ rfl)
  simp only [List.append_nil, Rows.uptoBulkAll] at hbulk
  have k0 := h0
  have lt0 : ∀ x ∈ p0, x.block < W.heap.size := by obtain ⟨m, hm⟩ := k0; exact DataW.trod_lt m _ _ _ hm
  obtain ⟨D0, va0, vb0, rfl, wa0, wb0, sm0⟩ := open_meta (hval 0 25 v0 rfl rfl) h0 (by omega)
  have k1 := h1
  have lt1 : ∀ x ∈ p1, x.block < W.heap.size := by obtain ⟨m, hm⟩ := k1; exact DataW.trod_lt m _ _ _ hm
  obtain ⟨a1, rfl, rfl, _, w1⟩ := open_string Tryz.underlying9 (hval 1 9 v1 rfl rfl) h1
  have k2 := h2
  have lt2 : ∀ x ∈ p2, x.block < W.heap.size := by obtain ⟨m, hm⟩ := k2; exact DataW.trod_lt m _ _ _ hm
  obtain ⟨a2, w2, s2⟩ := open_pairsB (hval 2 23 v2 rfl rfl) h2
  clear hA0
  refine (wrapMetaLaw D0 va0 vb0 a1 a2 v2 W wa0 wb0 sm0 (str_small (H := H) (s := a1) (by omega)) w2 (ents_small s2 (by omega)).1 (ents_small s2 (by omega)).2 hVars).mono fun e W' ⟨he, bel⟩ => ?_
  subst he
  exact ⟨_, rfl, _, _, _, [], _, [], hW', trodAll_mk1 (shut_bool Tryz.underlying4 _), (trodAll_cons_mk (Below.trod laidOut (by kernel_rfl) (of_decide_eq_true (by kernel_rfl)) k0 bel lt0) (trodAll_cons_mk (Below.trod laidOut (by kernel_rfl) (of_decide_eq_true (by kernel_rfl)) k1 bel lt1) (trodAll_cons_mk (Below.trod laidOut (by kernel_rfl) (of_decide_eq_true (by kernel_rfl)) k2 bel lt2) trodAll_mk0))), rfl, bel.frame _, fun h => by cases h⟩

theorem said : Rows.FnWrapMetaUptoSaid :=
  OpenClaim.holds_of_cond 6 Tryz.f6 rfl rfl rfl rfl rfl rfl rfl ⟨rfl, rfl, rfl, rfl, rfl⟩ rfl rfl rfl rfl rfl (by kernel_rfl) Tryz.func6 (by kernel_rfl)
    (of_decide_eq_true (by kernel_rfl)) (by unfold Func.isWrapper; first | (rw [if_pos (by decide +kernel)]; kernel_rfl) | (rw [if_neg (by decide +kernel)]; exact ⟨rfl, rfl⟩))
    (fun os started H enc _ F => by rw [OpenClaim.pre_eq_preRow]; exact lifted os started H enc F)

theorem plain (f : FuncId) (fn : Func) (hf : Tryz.pinned.checked.prog.funcNamed "pub-dialplate/laws.FnWrapMeta" = some f) (hfn : Tryz.pinned.checked.prog.funcs[f]? = some fn) :
    false = Tryz.pinned.checked.prog.looks [] ∧ ∀ (j : Nat) t, fn.params[j]? = some t → Tryz.pinned.checked.prog.wantsStandIn t = false := by
  obtain rfl : f = 6 := Option.some.inj ((show Tryz.prog.funcNamed "pub-dialplate/laws.FnWrapMeta" = some 6 by kernel_rfl).symm.trans hf) |>.symm
  obtain rfl : fn = Tryz.f6 := (Option.some.inj (Tryz.func6.symm.trans hfn)).symm
  refine ⟨by kernel_rfl, fun j t ht => ?_⟩
  rw [Tryz.params6] at ht
  have hm := Array.mem_of_getElem? ht
  simp at hm
  rcases hm with rfl | rfl | rfl
  · exact (show Tryz.prog.wantsStandIn 25 = false by kernel_rfl)
  · exact (show Tryz.prog.wantsStandIn 9 = false by kernel_rfl)
  · exact (show Tryz.prog.wantsStandIn 23 = false by kernel_rfl)

theorem proved : Rows.FnWrapMetaUptoCardSaid :=
  Claim7.holds_tied_plain_at .later [] _ _ _ _ said (fun _ h => by cases h) (by kernel_rfl) (fun _ h => by cases h) fnWrapMetaUpto_row_tie rfl ⟨rfl, rfl⟩ (by kernel_rfl) rfl plain (by kernel_rfl)
end Go.Proofs.YtojlpfakdodnfaaGreatDoor.fnWrapMeta
