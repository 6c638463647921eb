/-
  Contracts of Go's library at this program, laid by the kit's own tool in plain words, those alone that the proofs use.
-/
import Derived.Shelf.Strings.Search1
import Derived.Shelf.Strings.Search2
import Derived.Shelf.Strings.Search3
import Derived.Shelf.Strings.Count
import Derived.Shelf.LaysM
import Derived.Shelf.Strings.Shaped
import Derived.Shelf.Strings.Split
import Derived.Shelf.Strings.SplitShaped
import Derived.Test.Qxb6602881aDoorProg
namespace Go.Proofs
open Go.Shelf
def Tryd.lays144_ren : Go.Shelf.Ren := ⟨fun | 144 => 16 | 143 => 18 | 219 => 20 | 217 => 23 | 225 => 24 | 224 => 25 | 267 => 26 | 266 => 30 | 314 => 31 | n => n, fun | 9 => 9 | 4 => 4 | 3 => 3 | 5 => 5 | 46 => 45 | 146 => 50 | 51 => 49 | n => n, fun | 1 => 0 | n => n⟩
theorem Tryd.lays144 : Go.Proofs.Lays.n144 Tryd.prog Tryd.lays144_ren := {
  mixed := by kernel_rfl
  f143 := Tryd.func18.trans (congrArg some (by kernel_rfl))
  f144 := Tryd.func16.trans (congrArg some (by kernel_rfl))
  f217 := Tryd.func23.trans (congrArg some (by kernel_rfl))
  f219 := Tryd.func20.trans (congrArg some (by kernel_rfl))
  f224 := Tryd.func25.trans (congrArg some (by kernel_rfl))
  f225 := Tryd.func24.trans (congrArg some (by kernel_rfl))
  f266 := Tryd.func30.trans (congrArg some (by kernel_rfl))
  f267 := Tryd.func26.trans (congrArg some (by kernel_rfl))
  f314 := Tryd.func31.trans (congrArg some (by kernel_rfl))
  t3 := Tryd.underlying3
  a3 := Tryd.isAgg3
  z3 := Tryd.sizeOf3
  v3 := Tryd.zeroValue3
  t4 := Tryd.underlying4
  a4 := Tryd.isAgg4
  z4 := Tryd.sizeOf4
  v4 := Tryd.zeroValue4
  t5 := Tryd.underlying5
  a5 := Tryd.isAgg5
  z5 := Tryd.sizeOf5
  v5 := Tryd.zeroValue5
  t9 := Tryd.underlying9
  a9 := Tryd.isAgg9
  z9 := Tryd.sizeOf9
  v9 := Tryd.zeroValue9
  t46 := Tryd.underlying45
  a46 := Tryd.isAgg45
  z46 := Tryd.sizeOf45
  v46 := Tryd.zeroValue45
  t51 := Tryd.underlying49
  a51 := Tryd.isAgg49
  z51 := Tryd.sizeOf49
  v51 := Tryd.zeroValue49
  t146 := Tryd.underlying50
  a146 := Tryd.isAgg50
  z146 := Tryd.sizeOf50
  v146 := Tryd.zeroValue50
  g1 := by kernel_rfl }
open Go.RowKit Go.Lib in
theorem Tryd.strings_Contains_one (s : ByteArray) (c : UInt8) (w : World) :
    Calls Tryd.prog 16 #[.string s, .string ⟨#[c]⟩] w fun e w' => e = .returned (.bool (decide (0 ≤ Lib.indexByte s.data.toList c))) ∧ w' = w := Any.strings_Contains_one Tryd.lays144 s c w
def Tryd.lays146_ren : Go.Shelf.Ren := ⟨fun | 146 => 17 | 221 => 19 | 268 => 21 | 138 => 22 | 143 => 18 | 195 => 27 | 197 => 28 | 218 => 29 | 219 => 20 | 260 => 32 | 217 => 23 | 225 => 24 | 224 => 25 | 267 => 26 | 266 => 30 | 314 => 31 | n => n, fun | 9 => 9 | 31 => 30 | 3 => 3 | 4 => 4 | 0 => 0 | 105 => 47 | 21 => 21 | 5 => 5 | 46 => 45 | 119 => 52 | 139 => 55 | 138 => 54 | 146 => 50 | 51 => 49 | n => n, fun | 1 => 0 | 3 => 1 | 4 => 2 | n => n⟩
theorem Tryd.lays146 : Go.Proofs.Lays.n146 Tryd.prog Tryd.lays146_ren := {
  mixed := by kernel_rfl
  f138 := Tryd.func22.trans (congrArg some (by kernel_rfl))
  f143 := Tryd.func18.trans (congrArg some (by kernel_rfl))
  f146 := Tryd.func17.trans (congrArg some (by kernel_rfl))
  f195 := Tryd.func27.trans (congrArg some (by kernel_rfl))
  f197 := Tryd.func28.trans (congrArg some (by kernel_rfl))
  f217 := Tryd.func23.trans (congrArg some (by kernel_rfl))
  f218 := Tryd.func29.trans (congrArg some (by kernel_rfl))
  f219 := Tryd.func20.trans (congrArg some (by kernel_rfl))
  f221 := Tryd.func19.trans (congrArg some (by kernel_rfl))
  f224 := Tryd.func25.trans (congrArg some (by kernel_rfl))
  f225 := Tryd.func24.trans (congrArg some (by kernel_rfl))
  f260 := Tryd.func32.trans (congrArg some (by kernel_rfl))
  f266 := Tryd.func30.trans (congrArg some (by kernel_rfl))
  f267 := Tryd.func26.trans (congrArg some (by kernel_rfl))
  f268 := Tryd.func21.trans (congrArg some (by kernel_rfl))
  f314 := Tryd.func31.trans (congrArg some (by kernel_rfl))
  t0 := Tryd.underlying0
  a0 := Tryd.isAgg0
  z0 := Tryd.sizeOf0
  v0 := Tryd.zeroValue0
  t3 := Tryd.underlying3
  a3 := Tryd.isAgg3
  z3 := Tryd.sizeOf3
  v3 := Tryd.zeroValue3
  t4 := Tryd.underlying4
  a4 := Tryd.isAgg4
  z4 := Tryd.sizeOf4
  v4 := Tryd.zeroValue4
  t5 := Tryd.underlying5
  a5 := Tryd.isAgg5
  z5 := Tryd.sizeOf5
  v5 := Tryd.zeroValue5
  t9 := Tryd.underlying9
  a9 := Tryd.isAgg9
  z9 := Tryd.sizeOf9
  v9 := Tryd.zeroValue9
  t21 := Tryd.underlying21
  a21 := Tryd.isAgg21
  z21 := Tryd.sizeOf21
  v21 := Tryd.zeroValue21
  t31 := Tryd.underlying30
  a31 := Tryd.isAgg30
  z31 := Tryd.sizeOf30
  v31 := Tryd.zeroValue30
  t46 := Tryd.underlying45
  a46 := Tryd.isAgg45
  z46 := Tryd.sizeOf45
  v46 := Tryd.zeroValue45
  t51 := Tryd.underlying49
  a51 := Tryd.isAgg49
  z51 := Tryd.sizeOf49
  v51 := Tryd.zeroValue49
  t105 := Tryd.underlying47
  a105 := Tryd.isAgg47
  z105 := Tryd.sizeOf47
  v105 := Tryd.zeroValue47
  t119 := Tryd.underlying52
  a119 := Tryd.isAgg52
  z119 := Tryd.sizeOf52
  t138 := Tryd.underlying54
  a138 := Tryd.isAgg54
  z138 := Tryd.sizeOf54
  v138 := Tryd.zeroValue54
  t139 := Tryd.underlying55
  a139 := Tryd.isAgg55
  z139 := Tryd.sizeOf55
  v139 := Tryd.zeroValue55
  t146 := Tryd.underlying50
  a146 := Tryd.isAgg50
  z146 := Tryd.sizeOf50
  v146 := Tryd.zeroValue50
  g1 := by kernel_rfl
  g3 := by kernel_rfl
  g4 := by kernel_rfl }
open Go.RowKit Go.Lib in
theorem Tryd.strings_Split (s sep : ByteArray) (m : Int) (w : World) (hs : s.size < 4294967281) (hm : w.cell? ⟨0, 0, none⟩ = some (.int .i64 m)) (h1 : 1 ≤ sep.size) :
    Calls Tryd.prog 17 #[.string s, .string sep] w fun e w' =>
      e = .returned (.slice (some ⟨w.heap.size, 0, none⟩) (Lib.countB s sep + 1) (Lib.countB s sep + 1)) ∧ w' = w.alloc (.cells ((Lib.splitB sep 0 (Lib.countB s sep) s).map Value.string).toArray 9) := Any.strings_Split Tryd.lays146 (by kernel_rfl) s sep m w hs hm h1
def Tryd.laysM146_ren : Go.Shelf.Ren := ⟨fun | 146 => 17 | 221 => 19 | 268 => 21 | 138 => 22 | 143 => 18 | 195 => 27 | 197 => 28 | 218 => 29 | 219 => 20 | 260 => 32 | 217 => 23 | 225 => 24 | 224 => 25 | 267 => 26 | 266 => 30 | 314 => 31 | n => n, fun | 9 => 9 | 31 => 30 | 3 => 3 | 4 => 4 | 0 => 0 | 105 => 47 | 21 => 21 | 5 => 5 | 46 => 45 | 119 => 52 | 139 => 55 | 138 => 54 | 146 => 50 | 51 => 49 | n => n, fun | 1 => 0 | 3 => 1 | 4 => 2 | n => n⟩
theorem Tryd.laysM146 : Go.Proofs.LaysM.n146 Tryd.prog Tryd.laysM146_ren := {
  mixed := by kernel_rfl
  f138 := Tryd.func22.trans (congrArg some (by kernel_rfl))
  f143 := Tryd.func18.trans (congrArg some (by kernel_rfl))
  f146 := Tryd.func17.trans (congrArg some (by kernel_rfl))
  f195 := Tryd.func27.trans (congrArg some (by kernel_rfl))
  f197 := Tryd.func28.trans (congrArg some (by kernel_rfl))
  f217 := Tryd.func23.trans (congrArg some (by kernel_rfl))
  f218 := Tryd.func29.trans (congrArg some (by kernel_rfl))
  f219 := Tryd.func20.trans (congrArg some (by kernel_rfl))
  f221 := Tryd.func19.trans (congrArg some (by kernel_rfl))
  f224 := Tryd.func25.trans (congrArg some (by kernel_rfl))
  f225 := Tryd.func24.trans (congrArg some (by kernel_rfl))
  f260 := Tryd.func32.trans (congrArg some (by kernel_rfl))
  f266 := Tryd.func30.trans (congrArg some (by kernel_rfl))
  f267 := Tryd.func26.trans (congrArg some (by kernel_rfl))
  f268 := Tryd.func21.trans (congrArg some (by kernel_rfl))
  f314 := Tryd.func31.trans (congrArg some (by kernel_rfl))
  t0 := Tryd.underlying0
  a0 := Tryd.isAgg0
  z0 := Tryd.sizeOf0
  v0 := Tryd.zeroValue0
  t3 := Tryd.underlying3
  a3 := Tryd.isAgg3
  z3 := Tryd.sizeOf3
  v3 := Tryd.zeroValue3
  t4 := Tryd.underlying4
  a4 := Tryd.isAgg4
  z4 := Tryd.sizeOf4
  v4 := Tryd.zeroValue4
  t5 := Tryd.underlying5
  a5 := Tryd.isAgg5
  z5 := Tryd.sizeOf5
  v5 := Tryd.zeroValue5
  t9 := Tryd.underlying9
  a9 := Tryd.isAgg9
  z9 := Tryd.sizeOf9
  v9 := Tryd.zeroValue9
  t21 := Tryd.underlying21
  a21 := Tryd.isAgg21
  z21 := Tryd.sizeOf21
  v21 := Tryd.zeroValue21
  t31 := Tryd.underlying30
  a31 := Tryd.isAgg30
  z31 := Tryd.sizeOf30
  v31 := Tryd.zeroValue30
  t46 := Tryd.underlying45
  a46 := Tryd.isAgg45
  z46 := Tryd.sizeOf45
  v46 := Tryd.zeroValue45
  t51 := Tryd.underlying49
  a51 := Tryd.isAgg49
  z51 := Tryd.sizeOf49
  v51 := Tryd.zeroValue49
  t105 := Tryd.underlying47
  a105 := Tryd.isAgg47
  z105 := Tryd.sizeOf47
  v105 := Tryd.zeroValue47
  t119 := Tryd.underlying52
  a119 := Tryd.isAgg52
  z119 := Tryd.sizeOf52
  t138 := Tryd.underlying54
  a138 := Tryd.isAgg54
  z138 := Tryd.sizeOf54
  v138 := Tryd.zeroValue54
  t139 := Tryd.underlying55
  a139 := Tryd.isAgg55
  z139 := Tryd.sizeOf55
  v139 := Tryd.zeroValue55
  t146 := Tryd.underlying50
  a146 := Tryd.isAgg50
  z146 := Tryd.sizeOf50
  v146 := Tryd.zeroValue50
  g1 := by kernel_rfl
  g3 := by kernel_rfl
  g4 := by kernel_rfl
  i0 := by kernel_rfl
  i3 := by kernel_rfl
  i4 := by kernel_rfl
  i5 := by kernel_rfl
  i9 := by kernel_rfl
  i21 := by kernel_rfl
  i31 := by kernel_rfl
  i46 := by kernel_rfl
  i51 := by kernel_rfl
  i105 := by kernel_rfl
  i138 := by kernel_rfl
  i139 := by kernel_rfl
  i146 := by kernel_rfl
  m1 := by kernel_rfl
  s1_3 := fun w h => Go.Proofs.cell_of_shapedOpen_int (zero := #[.int .i64 0]) (t := 3) h (of_decide_eq_true (by kernel_rfl)) (by kernel_rfl) rfl (by kernel_rfl) (by kernel_rfl) Tryd.underlying3
  m3 := by kernel_rfl
  m4 := by kernel_rfl }
end Go.Proofs
