/- Whether a code point below 256 is white space (unicode.IsSpace): the shelf's contract at this seat; no condition. -/
import Derived.Shelf.Unicode.Latin
import Derived.Test.YthbdaoapjnofkaaDoorProg
namespace Go.Proofs
open Go.Shelf
def Tryd.lays199_ren : Go.Shelf.Ren := ⟨fun | 199 => 107 | 261 => 118 | 311 => 131 | 312 => 132 | n => n, fun | 21 => 21 | 4 => 4 | 51 => 123 | 141 => 152 | 0 => 0 | 196 => 165 | 193 => 162 | 3 => 3 | 198 => 167 | 49 => 116 | 194 => 163 | 201 => 170 | 226 => 179 | 46 => 150 | 227 => 180 | n => n, fun | 6 => 3 | n => n⟩
theorem Tryd.lays199 : Go.Proofs.Lays.n199 Tryd.prog Tryd.lays199_ren := {
  mixed := by kernel_rfl
  f199 := Tryd.func107.trans (congrArg some (by kernel_rfl))
  f261 := Tryd.func118.trans (congrArg some (by kernel_rfl))
  f311 := Tryd.func131.trans (congrArg some (by kernel_rfl))
  f312 := Tryd.func132.trans (congrArg some (by kernel_rfl))
  t0 := Tryd.underlying0
  a0 := Tryd.isAgg0
  z0 := Tryd.sizeOf0
  v0 := Tryd.zeroValue0
  t3 := Tryd.underlying3
  a3 := Tryd.isAgg3
  z3 := Tryd.sizeOf3
  v3 := Tryd.zeroValue3
  t4 := Tryd.underlying4
  a4 := Tryd.isAgg4
  z4 := Tryd.sizeOf4
  v4 := Tryd.zeroValue4
  t21 := Tryd.underlying21
  a21 := Tryd.isAgg21
  z21 := Tryd.sizeOf21
  v21 := Tryd.zeroValue21
  t46 := Tryd.underlying150
  a46 := Tryd.isAgg150
  z46 := Tryd.sizeOf150
  v46 := Tryd.zeroValue150
  t49 := Tryd.underlying116
  a49 := Tryd.isAgg116
  z49 := Tryd.sizeOf116
  v49 := Tryd.zeroValue116
  t51 := Tryd.underlying123
  a51 := Tryd.isAgg123
  z51 := Tryd.sizeOf123
  v51 := Tryd.zeroValue123
  t141 := Tryd.underlying152
  a141 := Tryd.isAgg152
  z141 := Tryd.sizeOf152
  v141 := Tryd.zeroValue152
  t193 := Tryd.underlying162
  a193 := Tryd.isAgg162
  z193 := Tryd.sizeOf162
  v193 := Tryd.zeroValue162
  t194 := Tryd.underlying163
  a194 := Tryd.isAgg163
  z194 := Tryd.sizeOf163
  v194 := Tryd.zeroValue163
  t196 := Tryd.underlying165
  a196 := Tryd.isAgg165
  z196 := Tryd.sizeOf165
  v196 := Tryd.zeroValue165
  t198 := Tryd.underlying167
  a198 := Tryd.isAgg167
  z198 := Tryd.sizeOf167
  v198 := Tryd.zeroValue167
  t201 := Tryd.underlying170
  a201 := Tryd.isAgg170
  z201 := Tryd.sizeOf170
  v201 := Tryd.zeroValue170
  t226 := Tryd.underlying179
  a226 := Tryd.isAgg179
  z226 := Tryd.sizeOf179
  v226 := Tryd.zeroValue179
  t227 := Tryd.underlying180
  a227 := Tryd.isAgg180
  z227 := Tryd.sizeOf180
  v227 := Tryd.zeroValue180
  g6 := by kernel_rfl }
open Go.RowKit Go.Lib in
theorem Tryd.unicode_IsSpace (r : Int) (w : World) (h0 : 0 ≤ r) (h : r ≤ 255) :
    Calls Tryd.prog 107 #[.int .i32 r] w fun e w' => e = .returned (.bool (Lib.isSpaceL r)) ∧ w' = w := Any.unicode_IsSpace Tryd.lays199 r w h0 h
end Go.Proofs
