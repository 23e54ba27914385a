/-
  DERIVED: THE SHELF's CONTRACTS AT THIS DUMP, IN PLAIN WORDS (tools/lay-plain.mjs out of 'TrydShelf.lean', which tools/lay-shelf.mjs wrote): THE SAME DECLARATIONS UNDER THE SAME NAMES: 'import', 'namespace', 'open', 'def', 'theorem' AND NOTHING ELSE: no command of the shelf's: FOR A HAND-IN. Each laying: the table of numbers ('.._ren') and one theorem, a field a fact of the dump's own or the kernel's comparison; each contract: ONE APPLICATION.
-/
import Derived.Shelf.Strings.Builder1
import Derived.Shelf.Strings.Builder2
import Derived.Shelf.Strings.OnBuilder
import Derived.Shelf.Small.Utf8
import Derived.Shelf.Strings.BuilderF
import Derived.Shelf.Strings.BuilderK
import Derived.Shelf.Strings.BuilderRune
import Derived.Shelf.Strconv.Itoa0
import Derived.Shelf.Strconv.Itoa1
import Derived.Shelf.LaysM
import Derived.Shelf.Strconv.Itoa2
import Derived.Shelf.Strconv.Itoa3
import Derived.Shelf.Bytes.Len
import Derived.Shelf.Bytes.TryGrow
import Derived.Shelf.Bytes.GrowSliceCatch
import Derived.Shelf.Bytes.GrowSlice
import Derived.Shelf.Bytes.GrowRow0
import Derived.Shelf.Bytes.GrowRow
import Derived.Shelf.Bytes.GrowNil
import Derived.Shelf.Bytes.Grow
import Derived.Shelf.Bytes.WriteString
import Derived.Shelf.Bytes.ResetKept
import Derived.Shelf.Bytes.LenAt
import Derived.Shelf.Bytes.TryGrowAt
import Derived.Shelf.Bytes.GrowRow0At
import Derived.Shelf.Bytes.GrowRowAt
import Derived.Shelf.Bytes.GrowNilAt
import Derived.Shelf.Bytes.GrowAt
import Derived.Shelf.Bytes.WriteStringAt
import Derived.Shelf.Strings.Prefix
import Derived.Shelf.Unicode.Latin
import Derived.Shelf.Unicode.Decode
import Derived.Shelf.Unicode.DecodeSlow
import Derived.Shelf.Unicode.DecodeAny
import Derived.Shelf.Unicode.Is16White
import Derived.Shelf.Unicode.IsSpaceAny
import Derived.Shelf.Unicode.CaseLookup
import Derived.Shelf.Unicode.CaseConvert
import Derived.Shelf.Unicode.CaseTo
import Derived.Shelf.Unicode.CaseLaid
import Derived.Shelf.Strings.MapAny
import Derived.Shelf.Strings.CaseAny
import Derived.Shelf.Unicode.Is16Any
import Derived.Shelf.Unicode.Is32Any
import Derived.Shelf.Unicode.ExclAny
import Derived.Test.YthbdaoapjnofkaaDoorProg
namespace Go.Proofs
open Go.Shelf
def Tryd.lays158_ren : Go.Shelf.Ren := ⟨fun | 158 => 100 | 165 => 112 | 166 => 113 | 167 => 114 | 169 => 115 | 230 => 116 | 203 => 117 | 240 => 124 | 241 => 125 | 197 => 126 | 118 => 127 | 168 => 128 | 270 => 129 | 262 => 130 | 276 => 135 | 277 => 136 | 260 => 137 | 242 => 97 | 313 => 138 | 278 => 106 | 274 => 139 | 275 => 140 | n => n, fun | 9 => 9 | 4 => 4 | 3 => 3 | 5 => 5 | 72 => 146 | 0 => 0 | 76 => 73 | 75 => 72 | 107 => 149 | 70 => 144 | 20 => 20 | 37 => 48 | 127 => 158 | 21 => 21 | 105 => 159 | 164 => 173 | 162 => 178 | 203 => 176 | 119 => 183 | 46 => 150 | 139 => 186 | 138 => 185 | 51 => 123 | 160 => 187 | 208 => 193 | 206 => 191 | 80 => 93 | n => n, fun | 13 => 5 | 3 => 9 | 4 => 10 | n => n⟩
theorem Tryd.lays158 : Go.Proofs.Lays.n158 Tryd.prog Tryd.lays158_ren := {
  mixed := by kernel_rfl
  f118 := Tryd.func127.trans (congrArg some (by kernel_rfl))
  f158 := Tryd.func100.trans (congrArg some (by kernel_rfl))
  f165 := Tryd.func112.trans (congrArg some (by kernel_rfl))
  f166 := Tryd.func113.trans (congrArg some (by kernel_rfl))
  f167 := Tryd.func114.trans (congrArg some (by kernel_rfl))
  f168 := Tryd.func128.trans (congrArg some (by kernel_rfl))
  f169 := Tryd.func115.trans (congrArg some (by kernel_rfl))
  f197 := Tryd.func126.trans (congrArg some (by kernel_rfl))
  f203 := Tryd.func117.trans (congrArg some (by kernel_rfl))
  f230 := Tryd.func116.trans (congrArg some (by kernel_rfl))
  f240 := Tryd.func124.trans (congrArg some (by kernel_rfl))
  f241 := Tryd.func125.trans (congrArg some (by kernel_rfl))
  f242 := Tryd.func97.trans (congrArg some (by kernel_rfl))
  f260 := Tryd.func137.trans (congrArg some (by kernel_rfl))
  f262 := Tryd.func130.trans (congrArg some (by kernel_rfl))
  f270 := Tryd.func129.trans (congrArg some (by kernel_rfl))
  f274 := Tryd.func139.trans (congrArg some (by kernel_rfl))
  f275 := Tryd.func140.trans (congrArg some (by kernel_rfl))
  f276 := Tryd.func135.trans (congrArg some (by kernel_rfl))
  f277 := Tryd.func136.trans (congrArg some (by kernel_rfl))
  f278 := Tryd.func106.trans (congrArg some (by kernel_rfl))
  f313 := Tryd.func138.trans (congrArg some (by kernel_rfl))
  t0 := Tryd.underlying0
  a0 := Tryd.isAgg0
  z0 := Tryd.sizeOf0
  v0 := Tryd.zeroValue0
  t3 := Tryd.underlying3
  a3 := Tryd.isAgg3
  z3 := Tryd.sizeOf3
  v3 := Tryd.zeroValue3
  t4 := Tryd.underlying4
  a4 := Tryd.isAgg4
  z4 := Tryd.sizeOf4
  v4 := Tryd.zeroValue4
  t5 := Tryd.underlying5
  a5 := Tryd.isAgg5
  z5 := Tryd.sizeOf5
  v5 := Tryd.zeroValue5
  t9 := Tryd.underlying9
  a9 := Tryd.isAgg9
  z9 := Tryd.sizeOf9
  v9 := Tryd.zeroValue9
  t20 := Tryd.underlying20
  a20 := Tryd.isAgg20
  z20 := Tryd.sizeOf20
  v20 := Tryd.zeroValue20
  t21 := Tryd.underlying21
  a21 := Tryd.isAgg21
  z21 := Tryd.sizeOf21
  v21 := Tryd.zeroValue21
  t37 := Tryd.underlying48
  a37 := Tryd.isAgg48
  z37 := Tryd.sizeOf48
  v37 := Tryd.zeroValue48
  t46 := Tryd.underlying150
  a46 := Tryd.isAgg150
  z46 := Tryd.sizeOf150
  v46 := Tryd.zeroValue150
  t51 := Tryd.underlying123
  a51 := Tryd.isAgg123
  z51 := Tryd.sizeOf123
  v51 := Tryd.zeroValue123
  t70 := Tryd.underlying144
  a70 := Tryd.isAgg144
  z70 := Tryd.sizeOf144
  v70 := Tryd.zeroValue144
  t72 := Tryd.underlying146
  a72 := Tryd.isAgg146
  z72 := Tryd.sizeOf146
  v72 := Tryd.zeroValue146
  t75 := Tryd.underlying72
  a75 := Tryd.isAgg72
  z75 := Tryd.sizeOf72
  v75 := Tryd.zeroValue72
  t76 := Tryd.underlying73
  a76 := Tryd.isAgg73
  z76 := Tryd.sizeOf73
  v76 := Tryd.zeroValue73
  t105 := Tryd.underlying159
  a105 := Tryd.isAgg159
  z105 := Tryd.sizeOf159
  v105 := Tryd.zeroValue159
  t107 := Tryd.underlying149
  a107 := Tryd.isAgg149
  z107 := Tryd.sizeOf149
  v107 := Tryd.zeroValue149
  t119 := Tryd.underlying183
  a119 := Tryd.isAgg183
  z119 := Tryd.sizeOf183
  t127 := Tryd.underlying158
  a127 := Tryd.isAgg158
  z127 := Tryd.sizeOf158
  v127 := Tryd.zeroValue158
  t138 := Tryd.underlying185
  a138 := Tryd.isAgg185
  z138 := Tryd.sizeOf185
  v138 := Tryd.zeroValue185
  t139 := Tryd.underlying186
  a139 := Tryd.isAgg186
  z139 := Tryd.sizeOf186
  v139 := Tryd.zeroValue186
  t160 := Tryd.underlying187
  a160 := Tryd.isAgg187
  z160 := Tryd.sizeOf187
  v160 := Tryd.zeroValue187
  t162 := Tryd.underlying178
  a162 := Tryd.isAgg178
  z162 := Tryd.sizeOf178
  v162 := Tryd.zeroValue178
  t164 := Tryd.underlying173
  a164 := Tryd.isAgg173
  z164 := Tryd.sizeOf173
  v164 := Tryd.zeroValue173
  t203 := Tryd.underlying176
  a203 := Tryd.isAgg176
  z203 := Tryd.sizeOf176
  v203 := Tryd.zeroValue176
  t206 := Tryd.underlying191
  a206 := Tryd.isAgg191
  z206 := Tryd.sizeOf191
  v206 := Tryd.zeroValue191
  t208 := Tryd.underlying193
  a208 := Tryd.isAgg193
  z208 := Tryd.sizeOf193
  v208 := Tryd.zeroValue193
  g3 := by kernel_rfl
  g4 := by kernel_rfl
  g13 := by kernel_rfl }
theorem Tryd.Builder_Extra_158 : Builder.Extra Tryd.prog Tryd.lays158_ren := {
  sizeBuilder := by kernel_rfl
  liesBuilder := by kernel_rfl
  t5 := Tryd.underlying5
  a5 := Tryd.isAgg5
  z5 := Tryd.sizeOf5
  v5 := Tryd.zeroValue5
  infoByte := by kernel_rfl
  cellsByte := by kernel_rfl
  sizeByte := by kernel_rfl
  neB5 := by decide }
open Go.RowKit in
/-- strings.ToUpper: "ToUpper returns s with all Unicode letters mapped to their upper case.": ON ASCII TEXT OF AT MOST 2^47 BYTES. Below the heap's end the world is as it was: where a letter turns, the call makes a builder and its buffer. (LAID: no walk: one application.) -/
theorem Tryd.strings_ToUpper_ascii (s : ByteArray) (w : World) (hs : s.size ≤ 140737488355328) (hascii : ∀ (j : Nat) (b : UInt8), s.data.toList[j]? = some b → b.toNat < 128) :
    Calls Tryd.prog 100 #[.string s] w fun e w' => e = .returned (.string ⟨(Lib.toUpperA s.data.toList).toArray⟩) ∧ Below w.heap.size w w' := Any.strings_ToUpper_ascii Tryd.lays158 Tryd.Builder_Extra_158 s w hs hascii
def Tryd.lays99_ren : Go.Shelf.Ren := ⟨fun | 99 => 87 | 206 => 101 | n => n, fun | 9 => 9 | 4 => 4 | 3 => 3 | n => n, fun | n => n⟩
theorem Tryd.lays99 : Go.Proofs.Lays.n99 Tryd.prog Tryd.lays99_ren := {
  mixed := by kernel_rfl
  f99 := Tryd.func87.trans (congrArg some (by kernel_rfl))
  f206 := Tryd.func101.trans (congrArg some (by kernel_rfl))
  t3 := Tryd.underlying3
  a3 := Tryd.isAgg3
  z3 := Tryd.sizeOf3
  v3 := Tryd.zeroValue3
  t4 := Tryd.underlying4
  a4 := Tryd.isAgg4
  z4 := Tryd.sizeOf4
  v4 := Tryd.zeroValue4
  t9 := Tryd.underlying9
  a9 := Tryd.isAgg9
  z9 := Tryd.sizeOf9
  v9 := Tryd.zeroValue9 }
open Go.RowKit Go.Lib in
/-- strings.HasPrefix: "HasPrefix reports whether the string s begins with prefix.": IT RETURNS 'Lib.hasPrefix s prefix'; the world is as it was. (LAID: no walk: one application.) -/
theorem Tryd.strings_HasPrefix (s p : ByteArray) (w : World) :
    Calls Tryd.prog 87 #[.string s, .string p] w fun e w' => e = .returned (.bool (Lib.hasPrefix s.data.toList p.data.toList)) ∧ w' = w := Any.strings_HasPrefix Tryd.lays99 s p w
def Tryd.lays100_ren : Go.Shelf.Ren := ⟨fun | 100 => 88 | 207 => 102 | n => n, fun | 9 => 9 | 4 => 4 | 3 => 3 | n => n, fun | n => n⟩
theorem Tryd.lays100 : Go.Proofs.Lays.n100 Tryd.prog Tryd.lays100_ren := {
  mixed := by kernel_rfl
  f100 := Tryd.func88.trans (congrArg some (by kernel_rfl))
  f207 := Tryd.func102.trans (congrArg some (by kernel_rfl))
  t3 := Tryd.underlying3
  a3 := Tryd.isAgg3
  z3 := Tryd.sizeOf3
  v3 := Tryd.zeroValue3
  t4 := Tryd.underlying4
  a4 := Tryd.isAgg4
  z4 := Tryd.sizeOf4
  v4 := Tryd.zeroValue4
  t9 := Tryd.underlying9
  a9 := Tryd.isAgg9
  z9 := Tryd.sizeOf9
  v9 := Tryd.zeroValue9 }
open Go.RowKit Go.Lib in
/-- strings.HasSuffix: "HasSuffix reports whether the string s ends with suffix.": IT RETURNS 'Lib.hasSuffix s suffix'; the world is as it was. ('hs': no Go string is longer: a caller has it of every string that it was handed.) (LAID: no walk: one application.) -/
theorem Tryd.strings_HasSuffix (s p : ByteArray) (w : World) (hs : s.size ≤ 9223372036854775807) :
    Calls Tryd.prog 88 #[.string s, .string p] w fun e w' => e = .returned (.bool (Lib.hasSuffix s.data.toList p.data.toList)) ∧ w' = w := Any.strings_HasSuffix Tryd.lays100 s p w hs
end Go.Proofs
