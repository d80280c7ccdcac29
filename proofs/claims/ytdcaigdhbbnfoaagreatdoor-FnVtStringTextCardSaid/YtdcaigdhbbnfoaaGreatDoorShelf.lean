/-
  DERIVED: THE SHELF's CONTRACTS AT THIS DUMP, IN PLAIN WORDS (tools/lay-plain.mjs out of 'TryzShelf.lean', which tools/lay-shelf.mjs wrote): THE SAME DECLARATIONS UNDER THE SAME NAMES: 'import', 'namespace', 'open', 'def', 'theorem' AND NOTHING ELSE: no command of the shelf's: FOR A HAND-IN. Each laying: the table of numbers ('.._ren') and one theorem, a field a fact of the dump's own or the kernel's comparison; each contract: ONE APPLICATION.
-/
import Derived.Shelf.Small.Utf8
import Derived.Shelf.Utf8.AppendRune
import Derived.Shelf.Strconv.Quote
import Derived.Shelf.Unicode.DecodeAny
import Derived.Shelf.Unicode.ValidAny
import Derived.Test.YtdcaigdhbbnfoaaGreatDoorProg
namespace Go.Proofs
open Go.Shelf
def Tryz.lays119_ren : Go.Shelf.Ren := ⟨fun | 119 => 47 | n => n, fun | 21 => 21 | 4 => 4 | n => n, fun | n => n⟩
theorem Tryz.lays119 : Go.Proofs.Lays.n119 Tryz.prog Tryz.lays119_ren := {
  mixed := by kernel_rfl
  f119 := Tryz.func47.trans (congrArg some (by kernel_rfl))
  t4 := Tryz.underlying4
  a4 := Tryz.isAgg4
  z4 := Tryz.sizeOf4
  v4 := Tryz.zeroValue4
  t21 := Tryz.underlying21
  a21 := Tryz.isAgg21
  z21 := Tryz.sizeOf21
  v21 := Tryz.zeroValue21 }
theorem Tryz.utf8_ValidRune (r : Int) (w : World) :
    Calls Tryz.prog 47 #[.int .i32 r] w fun e w' => e = .returned (.bool (Lib.validRune r)) ∧ w' = w := Any.utf8_ValidRune Tryz.lays119 r w
def Tryz.lays242_ren : Go.Shelf.Ren := ⟨fun | 242 => 30 | 278 => 48 | n => n, fun | 37 => 29 | 21 => 21 | 51 => 72 | 4 => 4 | 5 => 5 | 46 => 97 | n => n, fun | n => n⟩
theorem Tryz.lays242 : Go.Proofs.Lays.n242 Tryz.prog Tryz.lays242_ren := {
  mixed := by kernel_rfl
  f242 := Tryz.func30.trans (congrArg some (by kernel_rfl))
  f278 := Tryz.func48.trans (congrArg some (by kernel_rfl))
  t4 := Tryz.underlying4
  a4 := Tryz.isAgg4
  z4 := Tryz.sizeOf4
  v4 := Tryz.zeroValue4
  t5 := Tryz.underlying5
  a5 := Tryz.isAgg5
  z5 := Tryz.sizeOf5
  v5 := Tryz.zeroValue5
  t21 := Tryz.underlying21
  a21 := Tryz.isAgg21
  z21 := Tryz.sizeOf21
  v21 := Tryz.zeroValue21
  t37 := Tryz.underlying29
  a37 := Tryz.isAgg29
  z37 := Tryz.sizeOf29
  v37 := Tryz.zeroValue29
  t46 := Tryz.underlying97
  a46 := Tryz.isAgg97
  z46 := Tryz.sizeOf97
  v46 := Tryz.zeroValue97
  t51 := Tryz.underlying72
  a51 := Tryz.isAgg72
  z51 := Tryz.sizeOf72
  v51 := Tryz.zeroValue72 }
open Go.RowKit in
theorem Tryz.utf8_AppendRune_row (B : Nat) (v : Value) (n : Nat) (xs : List Value) (r : Int) (hr0 : -2147483648 ≤ r) (hr1 : r ≤ 2147483647) (w : World) (hown : w.ownsRowF B 5 1 v n xs) (hlen : n + 4 ≤ 140737488355328) (hBw : B ≤ w.heap.size) :
    Calls Tryz.prog 30 #[v, .int .i32 r] w fun e w' => ∃ v', e = .returned v' ∧ w'.ownsRowF B 5 1 v' (n + (Lib.runeCells r).length) (xs ++ Lib.runeCells r) ∧ ∃ o, (w.alloc o).grownBy w' v.ownBlock := Any.utf8_AppendRune_row Tryz.lays242 (by kernel_rfl) B v n xs r hr0 hr1 w hown hlen hBw
def Tryz.lays177_ren : Go.Shelf.Ren := ⟨fun | 177 => 7 | 250 => 14 | 289 => 31 | 197 => 28 | 323 => 49 | 260 => 45 | 339 => 75 | 340 => 76 | 242 => 30 | 119 => 47 | 345 => 98 | 346 => 99 | 278 => 48 | n => n, fun | 9 => 9 | 5 => 5 | 4 => 4 | 3 => 3 | 37 => 29 | 21 => 21 | 105 => 61 | 46 => 97 | 119 => 93 | 0 => 0 | 139 => 96 | 138 => 95 | 49 => 71 | 234 => 163 | 131 => 159 | 51 => 72 | 236 => 165 | n => n, fun | 3 => 2 | 4 => 3 | 20 => 6 | 21 => 7 | 22 => 8 | 23 => 9 | 24 => 10 | n => n⟩
theorem Tryz.lays177 : Go.Proofs.Lays.n177 Tryz.prog Tryz.lays177_ren := {
  mixed := by kernel_rfl
  f119 := Tryz.func47.trans (congrArg some (by kernel_rfl))
  f177 := Tryz.func7.trans (congrArg some (by kernel_rfl))
  f197 := Tryz.func28.trans (congrArg some (by kernel_rfl))
  f242 := Tryz.func30.trans (congrArg some (by kernel_rfl))
  f250 := Tryz.func14.trans (congrArg some (by kernel_rfl))
  f260 := Tryz.func45.trans (congrArg some (by kernel_rfl))
  f278 := Tryz.func48.trans (congrArg some (by kernel_rfl))
  f289 := Tryz.func31.trans (congrArg some (by kernel_rfl))
  f323 := Tryz.func49.trans (congrArg some (by kernel_rfl))
  f339 := Tryz.func75.trans (congrArg some (by kernel_rfl))
  f340 := Tryz.func76.trans (congrArg some (by kernel_rfl))
  f345 := Tryz.func98.trans (congrArg some (by kernel_rfl))
  f346 := Tryz.func99.trans (congrArg some (by kernel_rfl))
  t0 := Tryz.underlying0
  a0 := Tryz.isAgg0
  z0 := Tryz.sizeOf0
  v0 := Tryz.zeroValue0
  t3 := Tryz.underlying3
  a3 := Tryz.isAgg3
  z3 := Tryz.sizeOf3
  v3 := Tryz.zeroValue3
  t4 := Tryz.underlying4
  a4 := Tryz.isAgg4
  z4 := Tryz.sizeOf4
  v4 := Tryz.zeroValue4
  t5 := Tryz.underlying5
  a5 := Tryz.isAgg5
  z5 := Tryz.sizeOf5
  v5 := Tryz.zeroValue5
  t9 := Tryz.underlying9
  a9 := Tryz.isAgg9
  z9 := Tryz.sizeOf9
  v9 := Tryz.zeroValue9
  t21 := Tryz.underlying21
  a21 := Tryz.isAgg21
  z21 := Tryz.sizeOf21
  v21 := Tryz.zeroValue21
  t37 := Tryz.underlying29
  a37 := Tryz.isAgg29
  z37 := Tryz.sizeOf29
  v37 := Tryz.zeroValue29
  t46 := Tryz.underlying97
  a46 := Tryz.isAgg97
  z46 := Tryz.sizeOf97
  v46 := Tryz.zeroValue97
  t49 := Tryz.underlying71
  a49 := Tryz.isAgg71
  z49 := Tryz.sizeOf71
  v49 := Tryz.zeroValue71
  t51 := Tryz.underlying72
  a51 := Tryz.isAgg72
  z51 := Tryz.sizeOf72
  v51 := Tryz.zeroValue72
  t105 := Tryz.underlying61
  a105 := Tryz.isAgg61
  z105 := Tryz.sizeOf61
  v105 := Tryz.zeroValue61
  t119 := Tryz.underlying93
  a119 := Tryz.isAgg93
  z119 := Tryz.sizeOf93
  t131 := Tryz.underlying159
  a131 := Tryz.isAgg159
  z131 := Tryz.sizeOf159
  v131 := Tryz.zeroValue159
  t138 := Tryz.underlying95
  a138 := Tryz.isAgg95
  z138 := Tryz.sizeOf95
  v138 := Tryz.zeroValue95
  t139 := Tryz.underlying96
  a139 := Tryz.isAgg96
  z139 := Tryz.sizeOf96
  v139 := Tryz.zeroValue96
  t234 := Tryz.underlying163
  a234 := Tryz.isAgg163
  z234 := Tryz.sizeOf163
  v234 := Tryz.zeroValue163
  t236 := Tryz.underlying165
  a236 := Tryz.isAgg165
  z236 := Tryz.sizeOf165
  v236 := Tryz.zeroValue165
  g3 := by kernel_rfl
  g4 := by kernel_rfl
  g20 := by kernel_rfl
  g21 := by kernel_rfl
  g22 := by kernel_rfl
  g23 := by kernel_rfl
  g24 := by kernel_rfl }
open Go.RowKit in
theorem Tryz.strconv_Quote (T : Lib.PrintTabs) (s : ByteArray) (w : World) (hlen : 10 * s.size + 12 ≤ 140737488355328) (hT : Lib.PrintTabsAt 6 7 8 9 T w) (hU : Lib.Utf8Tabs 2 3 w) :
    Calls Tryz.prog 7 #[.string s] w fun e w' => e = .returned (.string (strOfNums (Lib.quoteZ T s))) ∧ Below w.heap.size w w' := Any.strconv_Quote Tryz.lays177 (by kernel_rfl) T s w hlen hT hU
def Tryz.lays197_ren : Go.Shelf.Ren := ⟨fun | 197 => 28 | 260 => 45 | n => n, fun | 9 => 9 | 21 => 21 | 3 => 3 | 4 => 4 | 5 => 5 | 105 => 61 | 119 => 93 | 0 => 0 | 46 => 97 | 139 => 96 | 138 => 95 | n => n, fun | 3 => 2 | 4 => 3 | n => n⟩
theorem Tryz.lays197 : Go.Proofs.Lays.n197 Tryz.prog Tryz.lays197_ren := {
  mixed := by kernel_rfl
  f197 := Tryz.func28.trans (congrArg some (by kernel_rfl))
  f260 := Tryz.func45.trans (congrArg some (by kernel_rfl))
  t0 := Tryz.underlying0
  a0 := Tryz.isAgg0
  z0 := Tryz.sizeOf0
  v0 := Tryz.zeroValue0
  t3 := Tryz.underlying3
  a3 := Tryz.isAgg3
  z3 := Tryz.sizeOf3
  v3 := Tryz.zeroValue3
  t4 := Tryz.underlying4
  a4 := Tryz.isAgg4
  z4 := Tryz.sizeOf4
  v4 := Tryz.zeroValue4
  t5 := Tryz.underlying5
  a5 := Tryz.isAgg5
  z5 := Tryz.sizeOf5
  v5 := Tryz.zeroValue5
  t9 := Tryz.underlying9
  a9 := Tryz.isAgg9
  z9 := Tryz.sizeOf9
  v9 := Tryz.zeroValue9
  t21 := Tryz.underlying21
  a21 := Tryz.isAgg21
  z21 := Tryz.sizeOf21
  v21 := Tryz.zeroValue21
  t46 := Tryz.underlying97
  a46 := Tryz.isAgg97
  z46 := Tryz.sizeOf97
  v46 := Tryz.zeroValue97
  t105 := Tryz.underlying61
  a105 := Tryz.isAgg61
  z105 := Tryz.sizeOf61
  v105 := Tryz.zeroValue61
  t119 := Tryz.underlying93
  a119 := Tryz.isAgg93
  z119 := Tryz.sizeOf93
  t138 := Tryz.underlying95
  a138 := Tryz.isAgg95
  z138 := Tryz.sizeOf95
  v138 := Tryz.zeroValue95
  t139 := Tryz.underlying96
  a139 := Tryz.isAgg96
  z139 := Tryz.sizeOf96
  v139 := Tryz.zeroValue96
  g3 := by kernel_rfl
  g4 := by kernel_rfl }
open Go.RowKit in
theorem Tryz.utf8_DecodeRuneInString (s : ByteArray) (w : World) (hT : Lib.Utf8Tabs 2 3 w) :
    Calls Tryz.prog 28 #[.string s] w fun e w' => e = .returned (.tuple #[.int .i32 (Lib.decodeGo s).1, .int .i64 (Lib.decodeGo s).2]) ∧ Below w.heap.size w w' := Any.utf8_DecodeRuneInString Tryz.lays197 s w hT
def Tryz.lays196_ren : Go.Shelf.Ren := ⟨fun | 196 => 27 | 259 => 44 | n => n, fun | 9 => 9 | 4 => 4 | 3 => 3 | 5 => 5 | 12 => 12 | 119 => 93 | 0 => 0 | 46 => 97 | 139 => 96 | 138 => 95 | 53 => 22 | n => n, fun | 3 => 2 | 4 => 3 | n => n⟩
theorem Tryz.lays196 : Go.Proofs.Lays.n196 Tryz.prog Tryz.lays196_ren := {
  mixed := by kernel_rfl
  f196 := Tryz.func27.trans (congrArg some (by kernel_rfl))
  f259 := Tryz.func44.trans (congrArg some (by kernel_rfl))
  t0 := Tryz.underlying0
  a0 := Tryz.isAgg0
  z0 := Tryz.sizeOf0
  v0 := Tryz.zeroValue0
  t3 := Tryz.underlying3
  a3 := Tryz.isAgg3
  z3 := Tryz.sizeOf3
  v3 := Tryz.zeroValue3
  t4 := Tryz.underlying4
  a4 := Tryz.isAgg4
  z4 := Tryz.sizeOf4
  v4 := Tryz.zeroValue4
  t5 := Tryz.underlying5
  a5 := Tryz.isAgg5
  z5 := Tryz.sizeOf5
  v5 := Tryz.zeroValue5
  t9 := Tryz.underlying9
  a9 := Tryz.isAgg9
  z9 := Tryz.sizeOf9
  v9 := Tryz.zeroValue9
  t12 := Tryz.underlying12
  a12 := Tryz.isAgg12
  z12 := Tryz.sizeOf12
  v12 := Tryz.zeroValue12
  t46 := Tryz.underlying97
  a46 := Tryz.isAgg97
  z46 := Tryz.sizeOf97
  v46 := Tryz.zeroValue97
  t53 := Tryz.underlying22
  a53 := Tryz.isAgg22
  z53 := Tryz.sizeOf22
  v53 := Tryz.zeroValue22
  t119 := Tryz.underlying93
  a119 := Tryz.isAgg93
  z119 := Tryz.sizeOf93
  t138 := Tryz.underlying95
  a138 := Tryz.isAgg95
  z138 := Tryz.sizeOf95
  v138 := Tryz.zeroValue95
  t139 := Tryz.underlying96
  a139 := Tryz.isAgg96
  z139 := Tryz.sizeOf96
  v139 := Tryz.zeroValue96
  g3 := by kernel_rfl
  g4 := by kernel_rfl }
open Go.RowKit in
theorem Tryz.utf8_ValidString (s : ByteArray) (w : World) (hs : s.size ≤ 9223372036854775807) (hT : Lib.Utf8Tabs 2 3 w) :
    Calls Tryz.prog 27 #[.string s] w fun e w' => e = .returned (.bool (Lib.validD s.data.toList)) ∧ Below w.heap.size w w' := Any.utf8_ValidString Tryz.lays196 s w hs hT
end Go.Proofs
