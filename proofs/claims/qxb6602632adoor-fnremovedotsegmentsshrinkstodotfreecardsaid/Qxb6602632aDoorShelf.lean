/-
  Contracts of Go's library at this program, laid by the kit's own tool in plain words, those alone that the proofs use.
-/
import Derived.Shelf.Strings.Builder1
import Derived.Shelf.Strings.Builder2
import Derived.Shelf.Strings.OnBuilder
import Derived.Shelf.Strings.Search1
import Derived.Shelf.Strings.Search2
import Derived.Shelf.Strings.Search3
import Derived.Shelf.Strings.Count
import Derived.Shelf.LaysM
import Derived.Shelf.Strings.Shaped
import Derived.Shelf.Strings.Prefix
import Derived.Shelf.Strings.Split
import Derived.Shelf.Strings.SplitShaped
import Derived.Test.Qxb6602632aDoorProg
namespace Go.Proofs
open Go.Shelf
def Tryd.lays156_ren : Go.Shelf.Ren := ⟨fun | 156 => 17 | 165 => 20 | 166 => 21 | 169 => 22 | 240 => 26 | 241 => 27 | 276 => 32 | 277 => 33 | n => n, fun | 31 => 27 | 9 => 9 | 3 => 3 | 4 => 4 | 0 => 0 | 20 => 20 | 72 => 33 | 76 => 37 | 70 => 31 | 37 => 24 | 75 => 36 | 127 => 42 | 164 => 47 | 5 => 5 | 80 => 39 | n => n, fun | n => n⟩
theorem Tryd.lays156 : Go.Proofs.Lays.n156 Tryd.prog Tryd.lays156_ren := {
  mixed := by kernel_rfl
  f156 := Tryd.func17.trans (congrArg some (by kernel_rfl))
  f165 := Tryd.func20.trans (congrArg some (by kernel_rfl))
  f166 := Tryd.func21.trans (congrArg some (by kernel_rfl))
  f169 := Tryd.func22.trans (congrArg some (by kernel_rfl))
  f240 := Tryd.func26.trans (congrArg some (by kernel_rfl))
  f241 := Tryd.func27.trans (congrArg some (by kernel_rfl))
  f276 := Tryd.func32.trans (congrArg some (by kernel_rfl))
  f277 := Tryd.func33.trans (congrArg some (by kernel_rfl))
  t0 := Tryd.underlying0
  a0 := Tryd.isAgg0
  z0 := Tryd.sizeOf0
  v0 := Tryd.zeroValue0
  t3 := Tryd.underlying3
  a3 := Tryd.isAgg3
  z3 := Tryd.sizeOf3
  v3 := Tryd.zeroValue3
  t4 := Tryd.underlying4
  a4 := Tryd.isAgg4
  z4 := Tryd.sizeOf4
  v4 := Tryd.zeroValue4
  t9 := Tryd.underlying9
  a9 := Tryd.isAgg9
  z9 := Tryd.sizeOf9
  v9 := Tryd.zeroValue9
  t20 := Tryd.underlying20
  a20 := Tryd.isAgg20
  z20 := Tryd.sizeOf20
  v20 := Tryd.zeroValue20
  t31 := Tryd.underlying27
  a31 := Tryd.isAgg27
  z31 := Tryd.sizeOf27
  v31 := Tryd.zeroValue27
  t37 := Tryd.underlying24
  a37 := Tryd.isAgg24
  z37 := Tryd.sizeOf24
  v37 := Tryd.zeroValue24
  t70 := Tryd.underlying31
  a70 := Tryd.isAgg31
  z70 := Tryd.sizeOf31
  v70 := Tryd.zeroValue31
  t72 := Tryd.underlying33
  a72 := Tryd.isAgg33
  z72 := Tryd.sizeOf33
  v72 := Tryd.zeroValue33
  t75 := Tryd.underlying36
  a75 := Tryd.isAgg36
  z75 := Tryd.sizeOf36
  v75 := Tryd.zeroValue36
  t76 := Tryd.underlying37
  a76 := Tryd.isAgg37
  z76 := Tryd.sizeOf37
  v76 := Tryd.zeroValue37
  t127 := Tryd.underlying42
  a127 := Tryd.isAgg42
  z127 := Tryd.sizeOf42
  v127 := Tryd.zeroValue42
  t164 := Tryd.underlying47
  a164 := Tryd.isAgg47
  z164 := Tryd.sizeOf47
  v164 := Tryd.zeroValue47 }
theorem Tryd.Builder_Extra_156 : Builder.Extra Tryd.prog Tryd.lays156_ren := {
  sizeBuilder := by kernel_rfl
  liesBuilder := by kernel_rfl
  t5 := Tryd.underlying5
  a5 := Tryd.isAgg5
  z5 := Tryd.sizeOf5
  v5 := Tryd.zeroValue5
  infoByte := by kernel_rfl
  cellsByte := by kernel_rfl
  sizeByte := by kernel_rfl
  neB5 := by decide }
open Go.RowKit in
theorem Tryd.strings_Join (bk o c : Nat) (xs : List ByteArray) (sep : ByteArray) (w : World) (hcells : ∀ (j : Nat) x, xs[j]? = some x → w.cell? ⟨bk, o + j, none⟩ = some (.string x)) (hbk : bk < w.heap.size) (hN : xs.length ≤ 140737488355328) (hcap : xs.length ≤ c) (hlen : (Lib.join (xs.map (·.data.toList)) sep.data.toList).length ≤ 140737488355328) :
    Calls Tryd.prog 17 #[.slice (some ⟨bk, o, none⟩) xs.length c, .string sep] w fun e w' => e = .returned (.string ⟨(Lib.join (xs.map (·.data.toList)) sep.data.toList).toArray⟩) ∧ Below w.heap.size w w' := Any.strings_Join Tryd.lays156 Tryd.Builder_Extra_156 bk o c xs sep w hcells hbk hN hcap hlen
def Tryd.lays99_ren : Go.Shelf.Ren := ⟨fun | 99 => 15 | 206 => 18 | n => n, fun | 9 => 9 | 4 => 4 | 3 => 3 | n => n, fun | n => n⟩
theorem Tryd.lays99 : Go.Proofs.Lays.n99 Tryd.prog Tryd.lays99_ren := {
  mixed := by kernel_rfl
  f99 := Tryd.func15.trans (congrArg some (by kernel_rfl))
  f206 := Tryd.func18.trans (congrArg some (by kernel_rfl))
  t3 := Tryd.underlying3
  a3 := Tryd.isAgg3
  z3 := Tryd.sizeOf3
  v3 := Tryd.zeroValue3
  t4 := Tryd.underlying4
  a4 := Tryd.isAgg4
  z4 := Tryd.sizeOf4
  v4 := Tryd.zeroValue4
  t9 := Tryd.underlying9
  a9 := Tryd.isAgg9
  z9 := Tryd.sizeOf9
  v9 := Tryd.zeroValue9 }
open Go.RowKit Go.Lib in
theorem Tryd.strings_HasPrefix (s p : ByteArray) (w : World) :
    Calls Tryd.prog 15 #[.string s, .string p] w fun e w' => e = .returned (.bool (Lib.hasPrefix s.data.toList p.data.toList)) ∧ w' = w := Any.strings_HasPrefix Tryd.lays99 s p w
def Tryd.lays146_ren : Go.Shelf.Ren := ⟨fun | 146 => 16 | 221 => 19 | 268 => 23 | 138 => 24 | 143 => 25 | 195 => 28 | 197 => 29 | 218 => 30 | 219 => 31 | 260 => 34 | 217 => 35 | 225 => 36 | 224 => 37 | 267 => 38 | 266 => 39 | 314 => 40 | n => n, fun | 9 => 9 | 31 => 27 | 3 => 3 | 4 => 4 | 0 => 0 | 105 => 44 | 21 => 21 | 5 => 5 | 46 => 51 | 119 => 52 | 139 => 55 | 138 => 54 | 146 => 57 | 51 => 56 | n => n, fun | 1 => 0 | 3 => 1 | 4 => 2 | n => n⟩
theorem Tryd.lays146 : Go.Proofs.Lays.n146 Tryd.prog Tryd.lays146_ren := {
  mixed := by kernel_rfl
  f138 := Tryd.func24.trans (congrArg some (by kernel_rfl))
  f143 := Tryd.func25.trans (congrArg some (by kernel_rfl))
  f146 := Tryd.func16.trans (congrArg some (by kernel_rfl))
  f195 := Tryd.func28.trans (congrArg some (by kernel_rfl))
  f197 := Tryd.func29.trans (congrArg some (by kernel_rfl))
  f217 := Tryd.func35.trans (congrArg some (by kernel_rfl))
  f218 := Tryd.func30.trans (congrArg some (by kernel_rfl))
  f219 := Tryd.func31.trans (congrArg some (by kernel_rfl))
  f221 := Tryd.func19.trans (congrArg some (by kernel_rfl))
  f224 := Tryd.func37.trans (congrArg some (by kernel_rfl))
  f225 := Tryd.func36.trans (congrArg some (by kernel_rfl))
  f260 := Tryd.func34.trans (congrArg some (by kernel_rfl))
  f266 := Tryd.func39.trans (congrArg some (by kernel_rfl))
  f267 := Tryd.func38.trans (congrArg some (by kernel_rfl))
  f268 := Tryd.func23.trans (congrArg some (by kernel_rfl))
  f314 := Tryd.func40.trans (congrArg some (by kernel_rfl))
  t0 := Tryd.underlying0
  a0 := Tryd.isAgg0
  z0 := Tryd.sizeOf0
  v0 := Tryd.zeroValue0
  t3 := Tryd.underlying3
  a3 := Tryd.isAgg3
  z3 := Tryd.sizeOf3
  v3 := Tryd.zeroValue3
  t4 := Tryd.underlying4
  a4 := Tryd.isAgg4
  z4 := Tryd.sizeOf4
  v4 := Tryd.zeroValue4
  t5 := Tryd.underlying5
  a5 := Tryd.isAgg5
  z5 := Tryd.sizeOf5
  v5 := Tryd.zeroValue5
  t9 := Tryd.underlying9
  a9 := Tryd.isAgg9
  z9 := Tryd.sizeOf9
  v9 := Tryd.zeroValue9
  t21 := Tryd.underlying21
  a21 := Tryd.isAgg21
  z21 := Tryd.sizeOf21
  v21 := Tryd.zeroValue21
  t31 := Tryd.underlying27
  a31 := Tryd.isAgg27
  z31 := Tryd.sizeOf27
  v31 := Tryd.zeroValue27
  t46 := Tryd.underlying51
  a46 := Tryd.isAgg51
  z46 := Tryd.sizeOf51
  v46 := Tryd.zeroValue51
  t51 := Tryd.underlying56
  a51 := Tryd.isAgg56
  z51 := Tryd.sizeOf56
  v51 := Tryd.zeroValue56
  t105 := Tryd.underlying44
  a105 := Tryd.isAgg44
  z105 := Tryd.sizeOf44
  v105 := Tryd.zeroValue44
  t119 := Tryd.underlying52
  a119 := Tryd.isAgg52
  z119 := Tryd.sizeOf52
  t138 := Tryd.underlying54
  a138 := Tryd.isAgg54
  z138 := Tryd.sizeOf54
  v138 := Tryd.zeroValue54
  t139 := Tryd.underlying55
  a139 := Tryd.isAgg55
  z139 := Tryd.sizeOf55
  v139 := Tryd.zeroValue55
  t146 := Tryd.underlying57
  a146 := Tryd.isAgg57
  z146 := Tryd.sizeOf57
  v146 := Tryd.zeroValue57
  g1 := by kernel_rfl
  g3 := by kernel_rfl
  g4 := by kernel_rfl }
open Go.RowKit Go.Lib in
theorem Tryd.strings_Split (s sep : ByteArray) (m : Int) (w : World) (hs : s.size < 4294967281) (hm : w.cell? ⟨0, 0, none⟩ = some (.int .i64 m)) (h1 : 1 ≤ sep.size) :
    Calls Tryd.prog 16 #[.string s, .string sep] w fun e w' =>
      e = .returned (.slice (some ⟨w.heap.size, 0, none⟩) (Lib.countB s sep + 1) (Lib.countB s sep + 1)) ∧ w' = w.alloc (.cells ((Lib.splitB sep 0 (Lib.countB s sep) s).map Value.string).toArray 9) := Any.strings_Split Tryd.lays146 (by kernel_rfl) s sep m w hs hm h1
def Tryd.laysM146_ren : Go.Shelf.Ren := ⟨fun | 146 => 16 | 221 => 19 | 268 => 23 | 138 => 24 | 143 => 25 | 195 => 28 | 197 => 29 | 218 => 30 | 219 => 31 | 260 => 34 | 217 => 35 | 225 => 36 | 224 => 37 | 267 => 38 | 266 => 39 | 314 => 40 | n => n, fun | 9 => 9 | 31 => 27 | 3 => 3 | 4 => 4 | 0 => 0 | 105 => 44 | 21 => 21 | 5 => 5 | 46 => 51 | 119 => 52 | 139 => 55 | 138 => 54 | 146 => 57 | 51 => 56 | n => n, fun | 1 => 0 | 3 => 1 | 4 => 2 | n => n⟩
theorem Tryd.laysM146 : Go.Proofs.LaysM.n146 Tryd.prog Tryd.laysM146_ren := {
  mixed := by kernel_rfl
  f138 := Tryd.func24.trans (congrArg some (by kernel_rfl))
  f143 := Tryd.func25.trans (congrArg some (by kernel_rfl))
  f146 := Tryd.func16.trans (congrArg some (by kernel_rfl))
  f195 := Tryd.func28.trans (congrArg some (by kernel_rfl))
  f197 := Tryd.func29.trans (congrArg some (by kernel_rfl))
  f217 := Tryd.func35.trans (congrArg some (by kernel_rfl))
  f218 := Tryd.func30.trans (congrArg some (by kernel_rfl))
  f219 := Tryd.func31.trans (congrArg some (by kernel_rfl))
  f221 := Tryd.func19.trans (congrArg some (by kernel_rfl))
  f224 := Tryd.func37.trans (congrArg some (by kernel_rfl))
  f225 := Tryd.func36.trans (congrArg some (by kernel_rfl))
  f260 := Tryd.func34.trans (congrArg some (by kernel_rfl))
  f266 := Tryd.func39.trans (congrArg some (by kernel_rfl))
  f267 := Tryd.func38.trans (congrArg some (by kernel_rfl))
  f268 := Tryd.func23.trans (congrArg some (by kernel_rfl))
  f314 := Tryd.func40.trans (congrArg some (by kernel_rfl))
  t0 := Tryd.underlying0
  a0 := Tryd.isAgg0
  z0 := Tryd.sizeOf0
  v0 := Tryd.zeroValue0
  t3 := Tryd.underlying3
  a3 := Tryd.isAgg3
  z3 := Tryd.sizeOf3
  v3 := Tryd.zeroValue3
  t4 := Tryd.underlying4
  a4 := Tryd.isAgg4
  z4 := Tryd.sizeOf4
  v4 := Tryd.zeroValue4
  t5 := Tryd.underlying5
  a5 := Tryd.isAgg5
  z5 := Tryd.sizeOf5
  v5 := Tryd.zeroValue5
  t9 := Tryd.underlying9
  a9 := Tryd.isAgg9
  z9 := Tryd.sizeOf9
  v9 := Tryd.zeroValue9
  t21 := Tryd.underlying21
  a21 := Tryd.isAgg21
  z21 := Tryd.sizeOf21
  v21 := Tryd.zeroValue21
  t31 := Tryd.underlying27
  a31 := Tryd.isAgg27
  z31 := Tryd.sizeOf27
  v31 := Tryd.zeroValue27
  t46 := Tryd.underlying51
  a46 := Tryd.isAgg51
  z46 := Tryd.sizeOf51
  v46 := Tryd.zeroValue51
  t51 := Tryd.underlying56
  a51 := Tryd.isAgg56
  z51 := Tryd.sizeOf56
  v51 := Tryd.zeroValue56
  t105 := Tryd.underlying44
  a105 := Tryd.isAgg44
  z105 := Tryd.sizeOf44
  v105 := Tryd.zeroValue44
  t119 := Tryd.underlying52
  a119 := Tryd.isAgg52
  z119 := Tryd.sizeOf52
  t138 := Tryd.underlying54
  a138 := Tryd.isAgg54
  z138 := Tryd.sizeOf54
  v138 := Tryd.zeroValue54
  t139 := Tryd.underlying55
  a139 := Tryd.isAgg55
  z139 := Tryd.sizeOf55
  v139 := Tryd.zeroValue55
  t146 := Tryd.underlying57
  a146 := Tryd.isAgg57
  z146 := Tryd.sizeOf57
  v146 := Tryd.zeroValue57
  g1 := by kernel_rfl
  g3 := by kernel_rfl
  g4 := by kernel_rfl
  i0 := by kernel_rfl
  i3 := by kernel_rfl
  i4 := by kernel_rfl
  i5 := by kernel_rfl
  i9 := by kernel_rfl
  i21 := by kernel_rfl
  i31 := by kernel_rfl
  i46 := by kernel_rfl
  i51 := by kernel_rfl
  i105 := by kernel_rfl
  i138 := by kernel_rfl
  i139 := by kernel_rfl
  i146 := by kernel_rfl
  m1 := by kernel_rfl
  s1_3 := fun w h => Go.Proofs.cell_of_shapedOpen_int (zero := #[.int .i64 0]) (t := 3) h (of_decide_eq_true (by kernel_rfl)) (by kernel_rfl) rfl (by kernel_rfl) (by kernel_rfl) Tryd.underlying3
  m3 := by kernel_rfl
  m4 := by kernel_rfl }
end Go.Proofs
