/-
  DERIVED: THE SHELF's CONTRACTS AT THIS DUMP, IN PLAIN WORDS (tools/lay-plain.mjs out of 'TryzShelf.lean', which tools/lay-shelf.mjs wrote): THE SAME DECLARATIONS UNDER THE SAME NAMES: 'import', 'namespace', 'open', 'def', 'theorem' AND NOTHING ELSE: no command of the shelf's: FOR A HAND-IN. Each laying: the table of numbers ('.._ren') and one theorem, a field a fact of the dump's own or the kernel's comparison; each contract: ONE APPLICATION.
-/
import Derived.Shelf.GgSortMore.SortSort
import Derived.Shelf.Slices.In.SortNone2
import Derived.Shelf.Sort.Plain
import Derived.Shelf.Strings.Prefix
import Derived.Shelf.Unicode.ValidAny
import Derived.Test.YtojlpfakdodnfaaGreatDoorProg
namespace Go.Proofs
open Go.Shelf
def Tryz.lays192_ren : Go.Shelf.Ren := ⟨fun | 192 => 65 | 190 => 74 | 125 => 70 | 258 => 88 | 128 => 77 | 129 => 78 | 302 => 94 | 303 => 95 | 304 => 96 | 305 => 97 | 306 => 98 | 307 => 99 | 308 => 100 | 309 => 101 | 310 => 102 | 333 => 104 | 329 => 105 | 330 => 106 | 334 => 107 | 335 => 108 | 336 => 109 | 344 => 110 | n => n, fun | 31 => 22 | 0 => 0 | 9 => 9 | 3 => 3 | 46 => 122 | 51 => 137 | 53 => 135 | 4 => 4 | 183 => 158 | 182 => 157 | 131 => 146 | 5 => 5 | 218 => 166 | 222 => 154 | 228 => 169 | 229 => 164 | n => n, fun | n => n⟩
theorem Tryz.lays192 : Go.Proofs.Lays.n192 Tryz.prog Tryz.lays192_ren := {
  mixed := by kernel_rfl
  f125 := Tryz.func70.trans (congrArg some (by kernel_rfl))
  f128 := Tryz.func77.trans (congrArg some (by kernel_rfl))
  f129 := Tryz.func78.trans (congrArg some (by kernel_rfl))
  f190 := Tryz.func74.trans (congrArg some (by kernel_rfl))
  f192 := Tryz.func65.trans (congrArg some (by kernel_rfl))
  f258 := Tryz.func88.trans (congrArg some (by kernel_rfl))
  f302 := Tryz.func94.trans (congrArg some (by kernel_rfl))
  f303 := Tryz.func95.trans (congrArg some (by kernel_rfl))
  f304 := Tryz.func96.trans (congrArg some (by kernel_rfl))
  f305 := Tryz.func97.trans (congrArg some (by kernel_rfl))
  f306 := Tryz.func98.trans (congrArg some (by kernel_rfl))
  f307 := Tryz.func99.trans (congrArg some (by kernel_rfl))
  f308 := Tryz.func100.trans (congrArg some (by kernel_rfl))
  f309 := Tryz.func101.trans (congrArg some (by kernel_rfl))
  f310 := Tryz.func102.trans (congrArg some (by kernel_rfl))
  f329 := Tryz.func105.trans (congrArg some (by kernel_rfl))
  f330 := Tryz.func106.trans (congrArg some (by kernel_rfl))
  f333 := Tryz.func104.trans (congrArg some (by kernel_rfl))
  f334 := Tryz.func107.trans (congrArg some (by kernel_rfl))
  f335 := Tryz.func108.trans (congrArg some (by kernel_rfl))
  f336 := Tryz.func109.trans (congrArg some (by kernel_rfl))
  f344 := Tryz.func110.trans (congrArg some (by kernel_rfl))
  t0 := Tryz.underlying0
  a0 := Tryz.isAgg0
  z0 := Tryz.sizeOf0
  v0 := Tryz.zeroValue0
  t3 := Tryz.underlying3
  a3 := Tryz.isAgg3
  z3 := Tryz.sizeOf3
  v3 := Tryz.zeroValue3
  t4 := Tryz.underlying4
  a4 := Tryz.isAgg4
  z4 := Tryz.sizeOf4
  v4 := Tryz.zeroValue4
  t5 := Tryz.underlying5
  a5 := Tryz.isAgg5
  z5 := Tryz.sizeOf5
  v5 := Tryz.zeroValue5
  t9 := Tryz.underlying9
  a9 := Tryz.isAgg9
  z9 := Tryz.sizeOf9
  v9 := Tryz.zeroValue9
  t31 := Tryz.underlying22
  a31 := Tryz.isAgg22
  z31 := Tryz.sizeOf22
  v31 := Tryz.zeroValue22
  t46 := Tryz.underlying122
  a46 := Tryz.isAgg122
  z46 := Tryz.sizeOf122
  v46 := Tryz.zeroValue122
  t51 := Tryz.underlying137
  a51 := Tryz.isAgg137
  z51 := Tryz.sizeOf137
  v51 := Tryz.zeroValue137
  t53 := Tryz.underlying135
  a53 := Tryz.isAgg135
  z53 := Tryz.sizeOf135
  v53 := Tryz.zeroValue135
  t131 := Tryz.underlying146
  a131 := Tryz.isAgg146
  z131 := Tryz.sizeOf146
  v131 := Tryz.zeroValue146
  t182 := Tryz.underlying157
  a182 := Tryz.isAgg157
  z182 := Tryz.sizeOf157
  v182 := Tryz.zeroValue157
  t183 := Tryz.underlying158
  a183 := Tryz.isAgg158
  z183 := Tryz.sizeOf158
  v183 := Tryz.zeroValue158
  t218 := Tryz.underlying166
  a218 := Tryz.isAgg166
  z218 := Tryz.sizeOf166
  v218 := Tryz.zeroValue166
  t222 := Tryz.underlying154
  a222 := Tryz.isAgg154
  z222 := Tryz.sizeOf154
  v222 := Tryz.zeroValue154
  t228 := Tryz.underlying169
  a228 := Tryz.isAgg169
  z228 := Tryz.sizeOf169
  v228 := Tryz.zeroValue169
  t229 := Tryz.underlying164
  a229 := Tryz.isAgg164
  z229 := Tryz.sizeOf164
  v229 := Tryz.zeroValue164 }
open Go.Sort Go.RowKit in
theorem Tryz.sort_Strings (blk off cap : Nat) (ss : List (List UInt8)) (w : World) (hH : Holds encStr w blk off ss.toArray) (hblk : blk < w.heap.size) (hsz : ss.length < 4611686018427387904) :
    Calls Tryz.prog 65 #[.slice (some ⟨blk, off, none⟩) ss.length cap] w fun e w' =>
      e = .returned (.tuple #[]) ∧ ∃ n os, w' = grow (putRow encStr (Sort.ahead w n) blk off (ss.mergeSort fun x y => decide (x ≤ y)).toArray) os := Any.sort_Strings Tryz.lays192 blk off cap ss w hH hblk hsz
def Tryz.laysGt11_ren : Go.Shelf.Ren := ⟨fun | 11 => 62 | 17 => 70 | 18 => 71 | 31 => 77 | 32 => 78 | 33 => 79 | 34 => 80 | 35 => 81 | 36 => 82 | 37 => 83 | 38 => 84 | 39 => 85 | 40 => 86 | 43 => 89 | 44 => 90 | 45 => 91 | 46 => 92 | 47 => 93 | 50 => 103 | n => n, fun | 45 => 127 | 3 => 3 | 4 => 4 | 47 => 122 | 0 => 0 | 56 => 137 | 58 => 135 | 61 => 141 | 60 => 140 | 65 => 146 | 5 => 5 | 9 => 9 | 67 => 150 | 71 => 154 | 73 => 163 | 74 => 164 | 43 => 128 | 26 => 144 | 38 => 149 | n => n, fun | n => n⟩
theorem Tryz.laysGt11 : Go.Proofs.LaysGt.n11 Tryz.prog Tryz.laysGt11_ren := {
  mixed := by kernel_rfl
  f11 := Tryz.func62.trans (congrArg some (by kernel_rfl))
  f17 := Tryz.func70.trans (congrArg some (by kernel_rfl))
  f18 := Tryz.func71.trans (congrArg some (by kernel_rfl))
  f31 := Tryz.func77.trans (congrArg some (by kernel_rfl))
  f32 := Tryz.func78.trans (congrArg some (by kernel_rfl))
  f33 := Tryz.func79.trans (congrArg some (by kernel_rfl))
  f34 := Tryz.func80.trans (congrArg some (by kernel_rfl))
  f35 := Tryz.func81.trans (congrArg some (by kernel_rfl))
  f36 := Tryz.func82.trans (congrArg some (by kernel_rfl))
  f37 := Tryz.func83.trans (congrArg some (by kernel_rfl))
  f38 := Tryz.func84.trans (congrArg some (by kernel_rfl))
  f39 := Tryz.func85.trans (congrArg some (by kernel_rfl))
  f40 := Tryz.func86.trans (congrArg some (by kernel_rfl))
  f43 := Tryz.func89.trans (congrArg some (by kernel_rfl))
  f44 := Tryz.func90.trans (congrArg some (by kernel_rfl))
  f45 := Tryz.func91.trans (congrArg some (by kernel_rfl))
  f46 := Tryz.func92.trans (congrArg some (by kernel_rfl))
  f47 := Tryz.func93.trans (congrArg some (by kernel_rfl))
  f50 := Tryz.func103.trans (congrArg some (by kernel_rfl))
  t0 := Tryz.underlying0
  a0 := Tryz.isAgg0
  z0 := Tryz.sizeOf0
  v0 := Tryz.zeroValue0
  i0 := by kernel_rfl
  t3 := Tryz.underlying3
  a3 := Tryz.isAgg3
  z3 := Tryz.sizeOf3
  v3 := Tryz.zeroValue3
  i3 := by kernel_rfl
  t4 := Tryz.underlying4
  a4 := Tryz.isAgg4
  z4 := Tryz.sizeOf4
  v4 := Tryz.zeroValue4
  i4 := by kernel_rfl
  t5 := Tryz.underlying5
  a5 := Tryz.isAgg5
  z5 := Tryz.sizeOf5
  v5 := Tryz.zeroValue5
  i5 := by kernel_rfl
  t9 := Tryz.underlying9
  a9 := Tryz.isAgg9
  z9 := Tryz.sizeOf9
  v9 := Tryz.zeroValue9
  i9 := by kernel_rfl
  t26 := Tryz.underlying144
  a26 := Tryz.isAgg144
  z26 := Tryz.sizeOf144
  v26 := Tryz.zeroValue144
  i26 := by kernel_rfl
  t38 := Tryz.underlying149
  a38 := Tryz.isAgg149
  z38 := Tryz.sizeOf149
  v38 := Tryz.zeroValue149
  i38 := by kernel_rfl
  t43 := Tryz.underlying128
  a43 := Tryz.isAgg128
  z43 := Tryz.sizeOf128
  v43 := Tryz.zeroValue128
  i43 := by kernel_rfl
  t45 := Tryz.underlying127
  a45 := Tryz.isAgg127
  z45 := Tryz.sizeOf127
  v45 := Tryz.zeroValue127
  i45 := by kernel_rfl
  t47 := Tryz.underlying122
  a47 := Tryz.isAgg122
  z47 := Tryz.sizeOf122
  v47 := Tryz.zeroValue122
  i47 := by kernel_rfl
  t56 := Tryz.underlying137
  a56 := Tryz.isAgg137
  z56 := Tryz.sizeOf137
  v56 := Tryz.zeroValue137
  i56 := by kernel_rfl
  t58 := Tryz.underlying135
  a58 := Tryz.isAgg135
  z58 := Tryz.sizeOf135
  v58 := Tryz.zeroValue135
  i58 := by kernel_rfl
  t60 := Tryz.underlying140
  a60 := Tryz.isAgg140
  z60 := Tryz.sizeOf140
  v60 := Tryz.zeroValue140
  i60 := by kernel_rfl
  t61 := Tryz.underlying141
  a61 := Tryz.isAgg141
  z61 := Tryz.sizeOf141
  v61 := Tryz.zeroValue141
  i61 := by kernel_rfl
  t65 := Tryz.underlying146
  a65 := Tryz.isAgg146
  z65 := Tryz.sizeOf146
  v65 := Tryz.zeroValue146
  i65 := by kernel_rfl
  t67 := Tryz.underlying150
  a67 := Tryz.isAgg150
  z67 := Tryz.sizeOf150
  v67 := Tryz.zeroValue150
  i67 := by kernel_rfl
  t71 := Tryz.underlying154
  a71 := Tryz.isAgg154
  z71 := Tryz.sizeOf154
  v71 := Tryz.zeroValue154
  i71 := by kernel_rfl
  t73 := Tryz.underlying163
  a73 := Tryz.isAgg163
  z73 := Tryz.sizeOf163
  v73 := Tryz.zeroValue163
  i73 := by kernel_rfl
  t74 := Tryz.underlying164
  a74 := Tryz.isAgg164
  z74 := Tryz.sizeOf164
  v74 := Tryz.zeroValue164
  i74 := by kernel_rfl }
open Go.RowKit Go.Lib Go.Sort in
theorem Tryz.sort_Sort_tiny {α : Type} [Inhabited α] (T : TypeId) (rv : Value) (gn : Nat) (rN : Reaches Tryz.prog T rv "Len" gn) (n : Nat) (hn : n ≤ 1) (w : World) (hlen : LenM Tryz.prog gn rv n w) :
    Calls Tryz.prog 62 #[.iface T rv] w fun e w' => e = .returned (.tuple #[]) ∧ ∃ q, w' = w.drewN q := Any.sort_Sort_tiny Tryz.laysGt11 T rv gn rN n hn w hlen
open Go.RowKit Go.Lib Go.Sort in
/-- **sort.Sort, IN THE DOCUMENTATION's OWN TERMS ("Sort sorts data in ascending order as determined by the Less method. .. The sort is not guaranteed to be stable"): A PERMUTATION OF WHAT THE ROW HELD, SORTED BY 'lt'.** (LAID: no walk: one application.) -/
theorem Tryz.sort_Sort_sorted {α : Type} [Inhabited α] (T : TypeId) (rv : Value) (gn gl gs : Nat) (rN : Reaches Tryz.prog T rv "Len" gn) (rL : Reaches Tryz.prog T rv "Less" gl) (rS : Reaches Tryz.prog T rv "Swap" gs) (enc : α → Value) (lt : α → α → Bool) (hO : SWO lt) (blk off : Nat) (d : Array α) (h2 : 2 ≤ d.size) (hsz : d.size < 4611686018427387904) (w : World) (hlen : LenM Tryz.prog gn rv d.size w) (hless : LessM Tryz.prog gl rv enc lt blk off d.size w) (hswap : SwapM Tryz.prog gs rv enc blk off d.size) (hH : Holds enc w blk off d) (hblk : blk < w.heap.size) :
    Calls Tryz.prog 62 #[.iface T rv] w fun e w' => e = .returned (.tuple #[]) ∧ ∃ d' n os, PermIn 0 d.size d d' ∧ SortedIn lt 0 d.size d' ∧ w' = grow (putRow enc (Sort.ahead w n) blk off d') os := Any.sort_Sort_sorted Tryz.laysGt11 T rv gn gl gs rN rL rS enc lt hO blk off d h2 hsz w hlen hless hswap hH hblk
def Tryz.lays99_ren : Go.Shelf.Ren := ⟨fun | 99 => 73 | 206 => 87 | n => n, fun | 9 => 9 | 4 => 4 | 3 => 3 | n => n, fun | n => n⟩
theorem Tryz.lays99 : Go.Proofs.Lays.n99 Tryz.prog Tryz.lays99_ren := {
  mixed := by kernel_rfl
  f99 := Tryz.func73.trans (congrArg some (by kernel_rfl))
  f206 := Tryz.func87.trans (congrArg some (by kernel_rfl))
  t3 := Tryz.underlying3
  a3 := Tryz.isAgg3
  z3 := Tryz.sizeOf3
  v3 := Tryz.zeroValue3
  t4 := Tryz.underlying4
  a4 := Tryz.isAgg4
  z4 := Tryz.sizeOf4
  v4 := Tryz.zeroValue4
  t9 := Tryz.underlying9
  a9 := Tryz.isAgg9
  z9 := Tryz.sizeOf9
  v9 := Tryz.zeroValue9 }
open Go.RowKit Go.Lib in
/-- strings.HasPrefix: "HasPrefix reports whether the string s begins with prefix.": IT RETURNS 'Lib.hasPrefix s prefix'; the world is as it was. (LAID: no walk: one application.) -/
theorem Tryz.strings_HasPrefix (s p : ByteArray) (w : World) :
    Calls Tryz.prog 73 #[.string s, .string p] w fun e w' => e = .returned (.bool (Lib.hasPrefix s.data.toList p.data.toList)) ∧ w' = w := Any.strings_HasPrefix Tryz.lays99 s p w
open Go.RowKit Go.Sort in
/-- .. and plain. (LAID: no walk: one application.) -/
theorem Tryz.sort_Strings_none (p : Option Addr) (cap : Nat) (w : World) :
    Calls Tryz.prog 65 #[.slice p 0 cap] w fun e w' => e = .returned (.tuple #[]) ∧ w' = w := Any.sort_Strings_none Tryz.lays192 p cap w
def Tryz.laysValid_ren : Go.Shelf.Ren := ⟨fun | 196 => 59 | 259 => 69 | n => n, fun | 9 => 9 | 4 => 4 | 3 => 3 | 5 => 5 | 12 => 12 | 119 => 118 | 0 => 0 | 46 => 122 | 139 => 121 | 138 => 120 | 53 => 135 | n => n, fun | 3 => 3 | 4 => 4 | n => n⟩
theorem Tryz.laysValid : Go.Proofs.Lays.n196 Tryz.prog Tryz.laysValid_ren := {
  mixed := by kernel_rfl
  f196 := Tryz.func59.trans (congrArg some (by kernel_rfl))
  f259 := Tryz.func69.trans (congrArg some (by kernel_rfl))
  t0 := Tryz.underlying0
  a0 := Tryz.isAgg0
  z0 := Tryz.sizeOf0
  v0 := Tryz.zeroValue0
  t3 := Tryz.underlying3
  a3 := Tryz.isAgg3
  z3 := Tryz.sizeOf3
  v3 := Tryz.zeroValue3
  t4 := Tryz.underlying4
  a4 := Tryz.isAgg4
  z4 := Tryz.sizeOf4
  v4 := Tryz.zeroValue4
  t5 := Tryz.underlying5
  a5 := Tryz.isAgg5
  z5 := Tryz.sizeOf5
  v5 := Tryz.zeroValue5
  t9 := Tryz.underlying9
  a9 := Tryz.isAgg9
  z9 := Tryz.sizeOf9
  v9 := Tryz.zeroValue9
  t12 := Tryz.underlying12
  a12 := Tryz.isAgg12
  z12 := Tryz.sizeOf12
  v12 := Tryz.zeroValue12
  t46 := Tryz.underlying122
  a46 := Tryz.isAgg122
  z46 := Tryz.sizeOf122
  v46 := Tryz.zeroValue122
  t53 := Tryz.underlying135
  a53 := Tryz.isAgg135
  z53 := Tryz.sizeOf135
  v53 := Tryz.zeroValue135
  t119 := Tryz.underlying118
  a119 := Tryz.isAgg118
  z119 := Tryz.sizeOf118
  t138 := Tryz.underlying120
  a138 := Tryz.isAgg120
  z138 := Tryz.sizeOf120
  v138 := Tryz.zeroValue120
  t139 := Tryz.underlying121
  a139 := Tryz.isAgg121
  z139 := Tryz.sizeOf121
  v139 := Tryz.zeroValue121
  g3 := by kernel_rfl
  g4 := by kernel_rfl }
end Go.Proofs
