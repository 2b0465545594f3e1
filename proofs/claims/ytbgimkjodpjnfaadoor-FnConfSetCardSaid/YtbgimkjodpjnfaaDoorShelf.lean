/- strings.EqualFold by the library's proved contract, at this program's numbers: it tells whether two texts are the same but for the case of letters. -/
import Derived.Shelf.Strings.Fold
import Derived.Test.YtbgimkjodpjnfaaDoorProg
namespace Go.Proofs
open Go.Shelf
def Tryd.lays164_ren : Go.Shelf.Ren := ⟨fun | 164 => 70 | 197 => 81 | 239 => 82 | 260 => 87 | 274 => 88 | 275 => 89 | n => n, fun | 9 => 9 | 4 => 4 | 3 => 3 | 5 => 5 | 0 => 0 | 21 => 21 | 105 => 130 | 156 => 141 | 49 => 140 | 157 => 142 | 46 => 143 | 159 => 145 | 162 => 148 | 160 => 146 | 119 => 129 | 139 => 162 | 138 => 161 | 208 => 166 | 51 => 136 | 206 => 164 | n => n, fun | 11 => 7 | 12 => 8 | 13 => 9 | 3 => 10 | 4 => 11 | n => n⟩
theorem Tryd.lays164 : Go.Proofs.Lays.n164 Tryd.prog Tryd.lays164_ren := {
  mixed := by kernel_rfl
  f164 := Tryd.func70.trans (congrArg some (by kernel_rfl))
  f197 := Tryd.func81.trans (congrArg some (by kernel_rfl))
  f239 := Tryd.func82.trans (congrArg some (by kernel_rfl))
  f260 := Tryd.func87.trans (congrArg some (by kernel_rfl))
  f274 := Tryd.func88.trans (congrArg some (by kernel_rfl))
  f275 := Tryd.func89.trans (congrArg some (by kernel_rfl))
  t0 := Tryd.underlying0
  a0 := Tryd.isAgg0
  z0 := Tryd.sizeOf0
  v0 := Tryd.zeroValue0
  t3 := Tryd.underlying3
  a3 := Tryd.isAgg3
  z3 := Tryd.sizeOf3
  v3 := Tryd.zeroValue3
  t4 := Tryd.underlying4
  a4 := Tryd.isAgg4
  z4 := Tryd.sizeOf4
  v4 := Tryd.zeroValue4
  t5 := Tryd.underlying5
  a5 := Tryd.isAgg5
  z5 := Tryd.sizeOf5
  v5 := Tryd.zeroValue5
  t9 := Tryd.underlying9
  a9 := Tryd.isAgg9
  z9 := Tryd.sizeOf9
  v9 := Tryd.zeroValue9
  t21 := Tryd.underlying21
  a21 := Tryd.isAgg21
  z21 := Tryd.sizeOf21
  v21 := Tryd.zeroValue21
  t46 := Tryd.underlying143
  a46 := Tryd.isAgg143
  z46 := Tryd.sizeOf143
  v46 := Tryd.zeroValue143
  t49 := Tryd.underlying140
  a49 := Tryd.isAgg140
  z49 := Tryd.sizeOf140
  v49 := Tryd.zeroValue140
  t51 := Tryd.underlying136
  a51 := Tryd.isAgg136
  z51 := Tryd.sizeOf136
  v51 := Tryd.zeroValue136
  t105 := Tryd.underlying130
  a105 := Tryd.isAgg130
  z105 := Tryd.sizeOf130
  v105 := Tryd.zeroValue130
  t119 := Tryd.underlying129
  a119 := Tryd.isAgg129
  z119 := Tryd.sizeOf129
  t138 := Tryd.underlying161
  a138 := Tryd.isAgg161
  z138 := Tryd.sizeOf161
  v138 := Tryd.zeroValue161
  t139 := Tryd.underlying162
  a139 := Tryd.isAgg162
  z139 := Tryd.sizeOf162
  v139 := Tryd.zeroValue162
  t156 := Tryd.underlying141
  a156 := Tryd.isAgg141
  z156 := Tryd.sizeOf141
  t157 := Tryd.underlying142
  a157 := Tryd.isAgg142
  z157 := Tryd.sizeOf142
  v157 := Tryd.zeroValue142
  t159 := Tryd.underlying145
  a159 := Tryd.isAgg145
  z159 := Tryd.sizeOf145
  v159 := Tryd.zeroValue145
  t160 := Tryd.underlying146
  a160 := Tryd.isAgg146
  z160 := Tryd.sizeOf146
  v160 := Tryd.zeroValue146
  t162 := Tryd.underlying148
  a162 := Tryd.isAgg148
  z162 := Tryd.sizeOf148
  v162 := Tryd.zeroValue148
  t206 := Tryd.underlying164
  a206 := Tryd.isAgg164
  z206 := Tryd.sizeOf164
  v206 := Tryd.zeroValue164
  t208 := Tryd.underlying166
  a208 := Tryd.isAgg166
  z208 := Tryd.sizeOf166
  v208 := Tryd.zeroValue166
  g3 := by kernel_rfl
  g4 := by kernel_rfl
  g11 := by kernel_rfl
  g12 := by kernel_rfl
  g13 := by kernel_rfl }
open Go.RowKit Go.Lib in
theorem Tryd.strings_EqualFold (s t : ByteArray) (w : World) (hs : s.size < 4294967281) (has : ∀ (j : Nat) b, s.data.toList[j]? = some b → b.toNat < 128) (hat : ∀ (j : Nat) b, t.data.toList[j]? = some b → b.toNat < 128) :
    Calls Tryd.prog 70 #[.string s, .string t] w fun e w' => e = .returned (.bool (Lib.equalFold s.data.toList t.data.toList)) ∧ w' = w := Any.strings_EqualFold Tryd.lays164 s t w hs has hat
end Go.Proofs
