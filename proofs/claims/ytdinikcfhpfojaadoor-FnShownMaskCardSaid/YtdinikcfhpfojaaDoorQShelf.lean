/-
  DERIVED: THE SHELF's CONTRACTS AT THIS DUMP, IN PLAIN WORDS (tools/lay-plain.mjs out of 'TrydShelf.lean', which tools/lay-shelf.mjs wrote): THE SAME DECLARATIONS UNDER THE SAME NAMES: 'import', 'namespace', 'open', 'def', 'theorem' AND NOTHING ELSE: no command of the shelf's: FOR A HAND-IN. Each laying: the table of numbers ('.._ren') and one theorem, a field a fact of the dump's own or the kernel's comparison; each contract: ONE APPLICATION.
-/
import Derived.Shelf.Strings.Builder1
import Derived.Shelf.Strings.Builder2
import Derived.Shelf.Strings.BuilderF
import Derived.Shelf.Strings.BuilderK
import Derived.Shelf.Utf8.AppendRunePlain
import Derived.Shelf.Strings.Builder2Cap
import Derived.Shelf.Strconv.Itoa0
import Derived.Shelf.Strconv.Itoa1
import Derived.Shelf.LaysM
import Derived.Shelf.Strconv.Itoa2
import Derived.Shelf.Strconv.Itoa3
import Derived.Shelf.Bytes.Len
import Derived.Shelf.Bytes.TryGrow
import Derived.Shelf.Bytes.GrowSliceCatch
import Derived.Shelf.Bytes.GrowSlice
import Derived.Shelf.Bytes.GrowRow0
import Derived.Shelf.Bytes.GrowRow
import Derived.Shelf.Bytes.GrowNil
import Derived.Shelf.Bytes.Grow
import Derived.Shelf.Bytes.WriteByte
import Derived.Shelf.Bytes.WriteString
import Derived.Shelf.Bytes.String
import Derived.Shelf.Bytes.Write
import Derived.Shelf.Bytes.Bytes
import Derived.Shelf.Bytes.GrowRow0Kept
import Derived.Shelf.Bytes.GrowRowKept
import Derived.Shelf.Bytes.GrowNilKept
import Derived.Shelf.Bytes.GrowKept
import Derived.Shelf.Bytes.WriteByteKept
import Derived.Shelf.Bytes.WriteStringKept
import Derived.Shelf.Bytes.ResetKept
import Derived.Shelf.Bytes.WriteKept
import Derived.Shelf.Bytes.BufferK
import Derived.Shelf.Bytes.GrowRow0Own
import Derived.Shelf.Bytes.GrowRowOwn
import Derived.Shelf.Bytes.GrowNilOwn
import Derived.Shelf.Bytes.GrowOwn
import Derived.Shelf.Bytes.WriteAny
import Derived.Ground.MzProg
import Derived.Shelf.Wr.WriteRuneAscii
import Derived.Shelf.Wr.WriteRune
import Derived.Shelf.Bytes.LenAt
import Derived.Shelf.Bytes.StringAt
import Derived.Shelf.Bytes.TryGrowAt
import Derived.Shelf.Bytes.GrowRow0At
import Derived.Shelf.Bytes.GrowRowAt
import Derived.Shelf.Bytes.GrowNilAt
import Derived.Shelf.Bytes.GrowAt
import Derived.Shelf.Bytes.WriteStringAt
import Derived.Shelf.Bytes.WriteAt
import Derived.Shelf.Strings.Prefix
import Derived.Shelf.Bits.Mul64
import Derived.Shelf.Strings.Repeat
import Derived.Shelf.Strings.BuilderCap
import Derived.Test.YtdinikcfhpfojaaDoorProg
namespace Go.Proofs
open Go.Shelf
def Tryd.laysM178_ren : Go.Shelf.Ren := ⟨fun | 178 => 120 | 251 => 153 | 252 => 154 | 181 => 178 | 184 => 179 | 290 => 180 | 324 => 194 | n => n, fun | 130 => 114 | 9 => 9 | 3 => 3 | 75 => 117 | 0 => 0 | 93 => 137 | 91 => 135 | 131 => 74 | 4 => 4 | 37 => 24 | 20 => 20 | 80 => 147 | 5 => 5 | n => n, fun | 14 => 1 | n => n⟩
theorem Tryd.laysM178 : Go.Proofs.LaysM.n178 Tryd.prog Tryd.laysM178_ren := {
  mixed := by kernel_rfl
  f178 := Tryd.func120.trans (congrArg some (by kernel_rfl))
  f181 := Tryd.func178.trans (congrArg some (by kernel_rfl))
  f184 := Tryd.func179.trans (congrArg some (by kernel_rfl))
  f251 := Tryd.func153.trans (congrArg some (by kernel_rfl))
  f252 := Tryd.func154.trans (congrArg some (by kernel_rfl))
  f290 := Tryd.func180.trans (congrArg some (by kernel_rfl))
  f324 := Tryd.func194.trans (congrArg some (by kernel_rfl))
  t0 := Tryd.underlying0
  a0 := Tryd.isAgg0
  z0 := Tryd.sizeOf0
  v0 := Tryd.zeroValue0
  t3 := Tryd.underlying3
  a3 := Tryd.isAgg3
  z3 := Tryd.sizeOf3
  v3 := Tryd.zeroValue3
  t4 := Tryd.underlying4
  a4 := Tryd.isAgg4
  z4 := Tryd.sizeOf4
  v4 := Tryd.zeroValue4
  t9 := Tryd.underlying9
  a9 := Tryd.isAgg9
  z9 := Tryd.sizeOf9
  v9 := Tryd.zeroValue9
  t20 := Tryd.underlying20
  a20 := Tryd.isAgg20
  z20 := Tryd.sizeOf20
  v20 := Tryd.zeroValue20
  t37 := Tryd.underlying24
  a37 := Tryd.isAgg24
  z37 := Tryd.sizeOf24
  v37 := Tryd.zeroValue24
  t75 := Tryd.underlying117
  a75 := Tryd.isAgg117
  z75 := Tryd.sizeOf117
  v75 := Tryd.zeroValue117
  t91 := Tryd.underlying135
  a91 := Tryd.isAgg135
  z91 := Tryd.sizeOf135
  v91 := Tryd.zeroValue135
  t93 := Tryd.underlying137
  a93 := Tryd.isAgg137
  z93 := Tryd.sizeOf137
  v93 := Tryd.zeroValue137
  t130 := Tryd.underlying114
  a130 := Tryd.isAgg114
  z130 := Tryd.sizeOf114
  v130 := Tryd.zeroValue114
  t131 := Tryd.underlying74
  a131 := Tryd.isAgg74
  z131 := Tryd.sizeOf74
  v131 := Tryd.zeroValue74
  g14 := by kernel_rfl
  t5 := Tryd.underlying5
  a5 := Tryd.isAgg5
  z5 := Tryd.sizeOf5
  v5 := Tryd.zeroValue5
  t80 := Tryd.underlying147
  a80 := Tryd.isAgg147
  z80 := Tryd.sizeOf147
  v80 := Tryd.zeroValue147
  i0 := by kernel_rfl
  i3 := by kernel_rfl
  i4 := by kernel_rfl
  i5 := by kernel_rfl
  i9 := by kernel_rfl
  i20 := by kernel_rfl
  i37 := by kernel_rfl
  i75 := by kernel_rfl
  i80 := by kernel_rfl
  i91 := by kernel_rfl
  i93 := by kernel_rfl
  i130 := by kernel_rfl
  i131 := by kernel_rfl
  m14 := by kernel_rfl }
def Tryd.laysM180_ren : Go.Shelf.Ren := ⟨fun | 180 => 121 | 251 => 153 | 252 => 154 | 181 => 178 | 184 => 179 | 290 => 180 | 324 => 194 | n => n, fun | 130 => 114 | 37 => 24 | 3 => 3 | 75 => 117 | 0 => 0 | 93 => 137 | 91 => 135 | 131 => 74 | 4 => 4 | 20 => 20 | 5 => 5 | 80 => 147 | 9 => 9 | n => n, fun | 14 => 1 | n => n⟩
theorem Tryd.laysM180 : Go.Proofs.LaysM.n180 Tryd.prog Tryd.laysM180_ren := {
  mixed := by kernel_rfl
  f180 := Tryd.func121.trans (congrArg some (by kernel_rfl))
  f181 := Tryd.func178.trans (congrArg some (by kernel_rfl))
  f184 := Tryd.func179.trans (congrArg some (by kernel_rfl))
  f251 := Tryd.func153.trans (congrArg some (by kernel_rfl))
  f252 := Tryd.func154.trans (congrArg some (by kernel_rfl))
  f290 := Tryd.func180.trans (congrArg some (by kernel_rfl))
  f324 := Tryd.func194.trans (congrArg some (by kernel_rfl))
  t0 := Tryd.underlying0
  a0 := Tryd.isAgg0
  z0 := Tryd.sizeOf0
  v0 := Tryd.zeroValue0
  t3 := Tryd.underlying3
  a3 := Tryd.isAgg3
  z3 := Tryd.sizeOf3
  v3 := Tryd.zeroValue3
  t4 := Tryd.underlying4
  a4 := Tryd.isAgg4
  z4 := Tryd.sizeOf4
  v4 := Tryd.zeroValue4
  t20 := Tryd.underlying20
  a20 := Tryd.isAgg20
  z20 := Tryd.sizeOf20
  v20 := Tryd.zeroValue20
  t37 := Tryd.underlying24
  a37 := Tryd.isAgg24
  z37 := Tryd.sizeOf24
  v37 := Tryd.zeroValue24
  t75 := Tryd.underlying117
  a75 := Tryd.isAgg117
  z75 := Tryd.sizeOf117
  v75 := Tryd.zeroValue117
  t91 := Tryd.underlying135
  a91 := Tryd.isAgg135
  z91 := Tryd.sizeOf135
  v91 := Tryd.zeroValue135
  t93 := Tryd.underlying137
  a93 := Tryd.isAgg137
  z93 := Tryd.sizeOf137
  v93 := Tryd.zeroValue137
  t130 := Tryd.underlying114
  a130 := Tryd.isAgg114
  z130 := Tryd.sizeOf114
  v130 := Tryd.zeroValue114
  t131 := Tryd.underlying74
  a131 := Tryd.isAgg74
  z131 := Tryd.sizeOf74
  v131 := Tryd.zeroValue74
  g14 := by kernel_rfl
  t5 := Tryd.underlying5
  a5 := Tryd.isAgg5
  z5 := Tryd.sizeOf5
  v5 := Tryd.zeroValue5
  t9 := Tryd.underlying9
  a9 := Tryd.isAgg9
  z9 := Tryd.sizeOf9
  v9 := Tryd.zeroValue9
  t80 := Tryd.underlying147
  a80 := Tryd.isAgg147
  z80 := Tryd.sizeOf147
  v80 := Tryd.zeroValue147
  i0 := by kernel_rfl
  i3 := by kernel_rfl
  i4 := by kernel_rfl
  i5 := by kernel_rfl
  i9 := by kernel_rfl
  i20 := by kernel_rfl
  i37 := by kernel_rfl
  i75 := by kernel_rfl
  i80 := by kernel_rfl
  i91 := by kernel_rfl
  i93 := by kernel_rfl
  i130 := by kernel_rfl
  i131 := by kernel_rfl
  m14 := by kernel_rfl }
def Tryd.laysM183_ren : Go.Shelf.Ren := ⟨fun | 183 => 126 | n => n, fun | 130 => 114 | 37 => 24 | 0 => 0 | 93 => 137 | 3 => 3 | 5 => 5 | 91 => 135 | n => n, fun | n => n⟩
theorem Tryd.laysM183 : Go.Proofs.LaysM.n183 Tryd.prog Tryd.laysM183_ren := {
  mixed := by kernel_rfl
  f183 := Tryd.func126.trans (congrArg some (by kernel_rfl))
  t0 := Tryd.underlying0
  a0 := Tryd.isAgg0
  z0 := Tryd.sizeOf0
  v0 := Tryd.zeroValue0
  t3 := Tryd.underlying3
  a3 := Tryd.isAgg3
  z3 := Tryd.sizeOf3
  v3 := Tryd.zeroValue3
  t37 := Tryd.underlying24
  a37 := Tryd.isAgg24
  z37 := Tryd.sizeOf24
  v37 := Tryd.zeroValue24
  t93 := Tryd.underlying137
  a93 := Tryd.isAgg137
  z93 := Tryd.sizeOf137
  v93 := Tryd.zeroValue137
  t130 := Tryd.underlying114
  a130 := Tryd.isAgg114
  z130 := Tryd.sizeOf114
  v130 := Tryd.zeroValue114
  t5 := Tryd.underlying5
  a5 := Tryd.isAgg5
  z5 := Tryd.sizeOf5
  v5 := Tryd.zeroValue5
  t91 := Tryd.underlying135
  a91 := Tryd.isAgg135
  z91 := Tryd.sizeOf135
  v91 := Tryd.zeroValue135
  i0 := by kernel_rfl
  i3 := by kernel_rfl
  i5 := by kernel_rfl
  i37 := by kernel_rfl
  i91 := by kernel_rfl
  i93 := by kernel_rfl
  i130 := by kernel_rfl }
open Go.RowKit in
/-- (*bytes.Buffer).Bytes: "Bytes returns a slice of length b.Len() holding the unread portion of the buffer. .. The slice aliases the buffer content at least until the next buffer modification": A SLICE THAT OWNS THE CELLS bs ('World.ownsRow': nil where nothing was ever written). The world is as it was but for the count of draws. (LAID: no walk: one application.) -/
theorem Tryd.Buffer_Bytes (B b : Nat) (bs : List Value) (w : World) (h : Lib.IsBuffer 137 5 B b bs w) :
    Calls Tryd.prog 126 #[.pointer (some ⟨b, 0, none⟩)] w fun e w' => ∃ v, e = .returned v ∧ w'.ownsRow B 5 1 v bs.length bs ∧ ∃ n, w' = w.drewN n := Any.Buffer_Bytes Tryd.laysM183 B b bs w h
open Go.RowKit in
theorem Tryd.Buffer_WriteString_k (B b : Nat) (bs : List Value) (s : ByteArray) (w : World) (h : Lib.IsBuffer 137 5 B b bs w) (hBw : B ≤ w.heap.size) (h1 : ∀ v ∈ bs, v.oneCell' = true) (hlim : bs.length + s.size ≤ 140737488355328) :
    Calls Tryd.prog 120 #[.pointer (some ⟨b, 0, none⟩), .string s] w fun e w' => e = .returned (.tuple #[.int .i64 s.size, .nilIface]) ∧ Lib.IsBuffer 137 5 B b (bs ++ Lib.byteCells s.data.toList) w' ∧ Below B w w' ∧ Lib.OthersKept 5 (some b) w w' := Any.Buffer_WriteString_k Tryd.laysM178 B b bs s w h hBw h1 hlim
open Go.RowKit in
/-- (*bytes.Buffer).Write: "Write appends the contents of p to the buffer, growing the buffer as needed. The return value n is the length of p; err is always nil." (LAID: no walk: one application.) -/
theorem Tryd.Buffer_Write_any (B b : Nat) (bs cs : List Value) (a : Addr) (n c : Nat) (w : World) (h : Lib.IsBuffer 137 5 B b bs w) (hBw : B ≤ w.heap.size) (h1 : ∀ v ∈ bs, v.oneCell' = true) (hn : cs.length = n) (hab : a.block ≠ b) (hsrc : ∀ j v, cs[j]? = some v → w.cell? (a.add j) = some v) (h1c : ∀ v ∈ cs, v.oneCell' = true) (hlim : bs.length + n ≤ 140737488355328) :
    Calls Tryd.prog 121 #[.pointer (some ⟨b, 0, none⟩), .slice (some a) n c] w fun e w' => e = .returned (.tuple #[.int .i64 n, .nilIface]) ∧ Lib.IsBuffer 137 5 B b (bs ++ cs) w' ∧ Below B w w' ∧ Lib.OthersKept 5 (some b) w w' := Any.Buffer_Write_any Tryd.laysM180 B b bs cs a n c w h hBw h1 hn hab hsrc h1c hlim
def Tryd.lays105_ren : Go.Shelf.Ren := ⟨fun | 105 => 122 | 212 => 155 | 99 => 156 | 165 => 157 | 166 => 158 | 170 => 159 | 169 => 160 | 263 => 181 | 264 => 182 | 206 => 183 | 240 => 184 | 241 => 185 | 276 => 195 | 277 => 196 | n => n, fun | 9 => 9 | 3 => 3 | 4 => 4 | 20 => 20 | 0 => 0 | 46 => 139 | 109 => 140 | 5 => 5 | 72 => 145 | 76 => 118 | 51 => 150 | 146 => 168 | 53 => 170 | 148 => 171 | 70 => 143 | 37 => 24 | 75 => 117 | 127 => 173 | 164 => 178 | 80 => 147 | n => n, fun | n => n⟩
theorem Tryd.lays105 : Go.Proofs.Lays.n105 Tryd.prog Tryd.lays105_ren := {
  mixed := by kernel_rfl
  f99 := Tryd.func156.trans (congrArg some (by kernel_rfl))
  f105 := Tryd.func122.trans (congrArg some (by kernel_rfl))
  f165 := Tryd.func157.trans (congrArg some (by kernel_rfl))
  f166 := Tryd.func158.trans (congrArg some (by kernel_rfl))
  f169 := Tryd.func160.trans (congrArg some (by kernel_rfl))
  f170 := Tryd.func159.trans (congrArg some (by kernel_rfl))
  f206 := Tryd.func183.trans (congrArg some (by kernel_rfl))
  f212 := Tryd.func155.trans (congrArg some (by kernel_rfl))
  f240 := Tryd.func184.trans (congrArg some (by kernel_rfl))
  f241 := Tryd.func185.trans (congrArg some (by kernel_rfl))
  f263 := Tryd.func181.trans (congrArg some (by kernel_rfl))
  f264 := Tryd.func182.trans (congrArg some (by kernel_rfl))
  f276 := Tryd.func195.trans (congrArg some (by kernel_rfl))
  f277 := Tryd.func196.trans (congrArg some (by kernel_rfl))
  t0 := Tryd.underlying0
  a0 := Tryd.isAgg0
  z0 := Tryd.sizeOf0
  v0 := Tryd.zeroValue0
  t3 := Tryd.underlying3
  a3 := Tryd.isAgg3
  z3 := Tryd.sizeOf3
  v3 := Tryd.zeroValue3
  t4 := Tryd.underlying4
  a4 := Tryd.isAgg4
  z4 := Tryd.sizeOf4
  v4 := Tryd.zeroValue4
  t5 := Tryd.underlying5
  a5 := Tryd.isAgg5
  z5 := Tryd.sizeOf5
  v5 := Tryd.zeroValue5
  t9 := Tryd.underlying9
  a9 := Tryd.isAgg9
  z9 := Tryd.sizeOf9
  v9 := Tryd.zeroValue9
  t20 := Tryd.underlying20
  a20 := Tryd.isAgg20
  z20 := Tryd.sizeOf20
  v20 := Tryd.zeroValue20
  t37 := Tryd.underlying24
  a37 := Tryd.isAgg24
  z37 := Tryd.sizeOf24
  v37 := Tryd.zeroValue24
  t46 := Tryd.underlying139
  a46 := Tryd.isAgg139
  z46 := Tryd.sizeOf139
  v46 := Tryd.zeroValue139
  t51 := Tryd.underlying150
  a51 := Tryd.isAgg150
  z51 := Tryd.sizeOf150
  v51 := Tryd.zeroValue150
  t53 := Tryd.underlying170
  a53 := Tryd.isAgg170
  z53 := Tryd.sizeOf170
  v53 := Tryd.zeroValue170
  t70 := Tryd.underlying143
  a70 := Tryd.isAgg143
  z70 := Tryd.sizeOf143
  v70 := Tryd.zeroValue143
  t72 := Tryd.underlying145
  a72 := Tryd.isAgg145
  z72 := Tryd.sizeOf145
  v72 := Tryd.zeroValue145
  t75 := Tryd.underlying117
  a75 := Tryd.isAgg117
  z75 := Tryd.sizeOf117
  v75 := Tryd.zeroValue117
  t76 := Tryd.underlying118
  a76 := Tryd.isAgg118
  z76 := Tryd.sizeOf118
  v76 := Tryd.zeroValue118
  t109 := Tryd.underlying140
  a109 := Tryd.isAgg140
  z109 := Tryd.sizeOf140
  v109 := Tryd.zeroValue140
  t127 := Tryd.underlying173
  a127 := Tryd.isAgg173
  z127 := Tryd.sizeOf173
  v127 := Tryd.zeroValue173
  t146 := Tryd.underlying168
  a146 := Tryd.isAgg168
  z146 := Tryd.sizeOf168
  v146 := Tryd.zeroValue168
  t148 := Tryd.underlying171
  a148 := Tryd.isAgg171
  z148 := Tryd.sizeOf171
  v148 := Tryd.zeroValue171
  t164 := Tryd.underlying178
  a164 := Tryd.isAgg178
  z164 := Tryd.sizeOf178
  v164 := Tryd.zeroValue178 }
theorem Tryd.Builder_Extra_105 : Builder.Extra Tryd.prog Tryd.lays105_ren := {
  sizeBuilder := by kernel_rfl
  liesBuilder := by kernel_rfl
  t5 := Tryd.underlying5
  a5 := Tryd.isAgg5
  z5 := Tryd.sizeOf5
  v5 := Tryd.zeroValue5
  infoByte := by kernel_rfl
  cellsByte := by kernel_rfl
  sizeByte := by kernel_rfl
  neB5 := by decide }
open Go.RowKit Go.Lib in
/-- **strings.Repeat: count ≥ 0, the result within one allocation: count copies of s.** (LAID: no walk: one application.) -/
theorem Tryd.strings_Repeat (s : ByteArray) (c : Nat) (w : World) (hc : c ≤ 9223372036854775807) (hlen : s.size * c ≤ 140737488355328) :
    Calls Tryd.prog 122 #[.string s, .int .i64 c] w fun e w' => e = .returned (.string ⟨(Lib.repeatL s.data.toList c).toArray⟩) ∧ Below w.heap.size w w' := Any.strings_Repeat Tryd.lays105 Tryd.Builder_Extra_105 s c w hc hlen
end Go.Proofs
