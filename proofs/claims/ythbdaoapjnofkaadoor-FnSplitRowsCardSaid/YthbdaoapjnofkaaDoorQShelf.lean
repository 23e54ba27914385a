/-
  DERIVED: THE SHELF's CONTRACTS AT THIS DUMP, IN PLAIN WORDS (tools/lay-plain.mjs out of 'TrydShelf.lean', which tools/lay-shelf.mjs wrote): THE SAME DECLARATIONS UNDER THE SAME NAMES: 'import', 'namespace', 'open', 'def', 'theorem' AND NOTHING ELSE: no command of the shelf's: FOR A HAND-IN. Each laying: the table of numbers ('.._ren') and one theorem, a field a fact of the dump's own or the kernel's comparison; each contract: ONE APPLICATION.
-/
import Derived.Shelf.Strings.Builder1
import Derived.Shelf.Strings.Builder2
import Derived.Shelf.Strings.OnBuilder
import Derived.Shelf.Small.Utf8
import Derived.Shelf.Strings.BuilderF
import Derived.Shelf.Strings.BuilderK
import Derived.Shelf.Strings.BuilderRune
import Derived.Shelf.Utf8.AppendRunePlain
import Derived.Shelf.Strconv.Itoa0
import Derived.Shelf.Strconv.Itoa1
import Derived.Shelf.LaysM
import Derived.Shelf.Strconv.Itoa2
import Derived.Shelf.Strconv.Itoa3
import Derived.Shelf.Bytes.Len
import Derived.Shelf.Bytes.TryGrow
import Derived.Shelf.Bytes.GrowSliceCatch
import Derived.Shelf.Bytes.GrowSlice
import Derived.Shelf.Bytes.GrowRow0
import Derived.Shelf.Bytes.GrowRow
import Derived.Shelf.Bytes.GrowNil
import Derived.Shelf.Bytes.Grow
import Derived.Shelf.Bytes.WriteByte
import Derived.Shelf.Bytes.WriteString
import Derived.Shelf.Bytes.String
import Derived.Shelf.Bytes.GrowRow0Kept
import Derived.Shelf.Bytes.GrowRowKept
import Derived.Shelf.Bytes.GrowNilKept
import Derived.Shelf.Bytes.GrowKept
import Derived.Shelf.Bytes.WriteByteKept
import Derived.Shelf.Bytes.WriteStringKept
import Derived.Shelf.Bytes.ResetKept
import Derived.Shelf.Bytes.BufferK
import Derived.Shelf.Bytes.GrowRow0Own
import Derived.Shelf.Bytes.GrowRowOwn
import Derived.Shelf.Bytes.GrowNilOwn
import Derived.Shelf.Bytes.GrowOwn
import Derived.Ground.MzProg
import Derived.Shelf.Wr.WriteRuneAscii
import Derived.Shelf.Wr.WriteRune
import Derived.Shelf.Bytes.LenAt
import Derived.Shelf.Bytes.StringAt
import Derived.Shelf.Bytes.TryGrowAt
import Derived.Shelf.Bytes.GrowRow0At
import Derived.Shelf.Bytes.GrowRowAt
import Derived.Shelf.Bytes.GrowNilAt
import Derived.Shelf.Bytes.GrowAt
import Derived.Shelf.Bytes.WriteByteAt
import Derived.Shelf.Bytes.WriteStringAt
import Derived.Shelf.Strings.Prefix
import Derived.Shelf.Unicode.Latin
import Derived.Shelf.Unicode.Decode
import Derived.Shelf.Unicode.DecodeSlow
import Derived.Shelf.Unicode.DecodeAny
import Derived.Shelf.Unicode.Is16White
import Derived.Shelf.Unicode.IsSpaceAny
import Derived.Shelf.Unicode.CaseLookup
import Derived.Shelf.Unicode.CaseConvert
import Derived.Shelf.Unicode.CaseTo
import Derived.Shelf.Unicode.CaseLaid
import Derived.Shelf.Strings.MapAny
import Derived.Shelf.Strings.CaseAny
import Derived.Shelf.Unicode.Is16Any
import Derived.Shelf.Unicode.Is32Any
import Derived.Shelf.Unicode.ExclAny
import Derived.Test.YthbdaoapjnofkaaDoorProg
namespace Go.Proofs
open Go.Shelf
def Tryd.laysM182_ren : Go.Shelf.Ren := ⟨fun | 182 => 75 | n => n, fun | 130 => 99 | 9 => 9 | 4 => 4 | 0 => 0 | 93 => 68 | 37 => 48 | 3 => 3 | 91 => 66 | 5 => 5 | n => n, fun | n => n⟩
theorem Tryd.laysM182 : Go.Proofs.LaysM.n182 Tryd.prog Tryd.laysM182_ren := {
  mixed := by kernel_rfl
  f182 := Tryd.func75.trans (congrArg some (by kernel_rfl))
  t0 := Tryd.underlying0
  a0 := Tryd.isAgg0
  z0 := Tryd.sizeOf0
  v0 := Tryd.zeroValue0
  t3 := Tryd.underlying3
  a3 := Tryd.isAgg3
  z3 := Tryd.sizeOf3
  v3 := Tryd.zeroValue3
  t4 := Tryd.underlying4
  a4 := Tryd.isAgg4
  z4 := Tryd.sizeOf4
  v4 := Tryd.zeroValue4
  t9 := Tryd.underlying9
  a9 := Tryd.isAgg9
  z9 := Tryd.sizeOf9
  v9 := Tryd.zeroValue9
  t37 := Tryd.underlying48
  a37 := Tryd.isAgg48
  z37 := Tryd.sizeOf48
  v37 := Tryd.zeroValue48
  t93 := Tryd.underlying68
  a93 := Tryd.isAgg68
  z93 := Tryd.sizeOf68
  v93 := Tryd.zeroValue68
  t130 := Tryd.underlying99
  a130 := Tryd.isAgg99
  z130 := Tryd.sizeOf99
  v130 := Tryd.zeroValue99
  t5 := Tryd.underlying5
  a5 := Tryd.isAgg5
  z5 := Tryd.sizeOf5
  v5 := Tryd.zeroValue5
  t91 := Tryd.underlying66
  a91 := Tryd.isAgg66
  z91 := Tryd.sizeOf66
  v91 := Tryd.zeroValue66
  i0 := by kernel_rfl
  i3 := by kernel_rfl
  i4 := by kernel_rfl
  i5 := by kernel_rfl
  i9 := by kernel_rfl
  i37 := by kernel_rfl
  i91 := by kernel_rfl
  i93 := by kernel_rfl
  i130 := by kernel_rfl }
open Go.RowKit in
/-- (*bytes.Buffer).String: "String returns the contents of the unread portion of the buffer as a string.": THE BYTES THAT WERE WRITTEN. The world is as it was but for the count of draws (the statement has two reads: its order is drawn). (LAID: no walk: one application.) -/
theorem Tryd.Buffer_String (B b : Nat) (l : List UInt8) (w : World) (h : Lib.IsBuffer 68 5 B b (Lib.byteCells l) w) :
    Calls Tryd.prog 75 #[.pointer (some ⟨b, 0, none⟩)] w fun e w' => e = .returned (.string ⟨l.toArray⟩) ∧ ∃ n, w' = w.drewN n := Any.Buffer_String Tryd.laysM182 B b l w h
def Tryd.laysM184_ren : Go.Shelf.Ren := ⟨fun | 184 => 79 | n => n, fun | 130 => 99 | 0 => 0 | 93 => 68 | 37 => 48 | 3 => 3 | 91 => 66 | 5 => 5 | n => n, fun | n => n⟩
theorem Tryd.laysM184 : Go.Proofs.LaysM.n184 Tryd.prog Tryd.laysM184_ren := {
  mixed := by kernel_rfl
  f184 := Tryd.func79.trans (congrArg some (by kernel_rfl))
  t0 := Tryd.underlying0
  a0 := Tryd.isAgg0
  z0 := Tryd.sizeOf0
  v0 := Tryd.zeroValue0
  t3 := Tryd.underlying3
  a3 := Tryd.isAgg3
  z3 := Tryd.sizeOf3
  v3 := Tryd.zeroValue3
  t37 := Tryd.underlying48
  a37 := Tryd.isAgg48
  z37 := Tryd.sizeOf48
  v37 := Tryd.zeroValue48
  t91 := Tryd.underlying66
  a91 := Tryd.isAgg66
  z91 := Tryd.sizeOf66
  v91 := Tryd.zeroValue66
  t93 := Tryd.underlying68
  a93 := Tryd.isAgg68
  z93 := Tryd.sizeOf68
  v93 := Tryd.zeroValue68
  t130 := Tryd.underlying99
  a130 := Tryd.isAgg99
  z130 := Tryd.sizeOf99
  v130 := Tryd.zeroValue99
  t5 := Tryd.underlying5
  a5 := Tryd.isAgg5
  z5 := Tryd.sizeOf5
  v5 := Tryd.zeroValue5
  i0 := by kernel_rfl
  i3 := by kernel_rfl
  i5 := by kernel_rfl
  i37 := by kernel_rfl
  i91 := by kernel_rfl
  i93 := by kernel_rfl
  i130 := by kernel_rfl }
open Go.RowKit in
theorem Tryd.Buffer_Reset_k (B b : Nat) (bs : List Value) (w : World) (h : Lib.IsBuffer 68 5 B b bs w) :
    Calls Tryd.prog 79 #[.pointer (some ⟨b, 0, none⟩)] w fun e w' => e = .returned (.tuple #[]) ∧ Lib.IsBuffer 68 5 B b [] w' ∧ Below B w w' ∧ Lib.OthersKept 5 (some b) w w' := Any.Buffer_Reset_k Tryd.laysM184 B b bs w h
def Tryd.laysWr5_ren : Go.Shelf.Ren := ⟨fun | 5 => 78 | 7 => 96 | 8 => 72 | 9 => 73 | 10 => 97 | 11 => 92 | 12 => 79 | 13 => 93 | 14 => 106 | 15 => 105 | n => n, fun | 34 => 99 | 21 => 21 | 3 => 3 | 28 => 72 | 35 => 123 | 4 => 4 | 5 => 5 | 0 => 0 | 26 => 68 | 24 => 66 | 37 => 100 | 22 => 48 | 43 => 150 | 20 => 20 | 31 => 93 | 9 => 9 | n => n, fun | 0 => 2 | n => n⟩
theorem Tryd.laysWr5 : Go.Proofs.LaysWr.n5 Tryd.prog Tryd.laysWr5_ren := {
  mixed := by kernel_rfl
  f5 := Tryd.func78.trans (congrArg some (by kernel_rfl))
  f7 := Tryd.func96.trans (congrArg some (by kernel_rfl))
  f8 := Tryd.func72.trans (congrArg some (by kernel_rfl))
  f9 := Tryd.func73.trans (congrArg some (by kernel_rfl))
  f10 := Tryd.func97.trans (congrArg some (by kernel_rfl))
  f11 := Tryd.func92.trans (congrArg some (by kernel_rfl))
  f12 := Tryd.func79.trans (congrArg some (by kernel_rfl))
  f13 := Tryd.func93.trans (congrArg some (by kernel_rfl))
  f14 := Tryd.func106.trans (congrArg some (by kernel_rfl))
  f15 := Tryd.func105.trans (congrArg some (by kernel_rfl))
  t0 := Tryd.underlying0
  a0 := Tryd.isAgg0
  z0 := Tryd.sizeOf0
  v0 := Tryd.zeroValue0
  i0 := by kernel_rfl
  t3 := Tryd.underlying3
  a3 := Tryd.isAgg3
  z3 := Tryd.sizeOf3
  v3 := Tryd.zeroValue3
  i3 := by kernel_rfl
  t4 := Tryd.underlying4
  a4 := Tryd.isAgg4
  z4 := Tryd.sizeOf4
  v4 := Tryd.zeroValue4
  i4 := by kernel_rfl
  t5 := Tryd.underlying5
  a5 := Tryd.isAgg5
  z5 := Tryd.sizeOf5
  v5 := Tryd.zeroValue5
  i5 := by kernel_rfl
  t9 := Tryd.underlying9
  a9 := Tryd.isAgg9
  z9 := Tryd.sizeOf9
  v9 := Tryd.zeroValue9
  i9 := by kernel_rfl
  t20 := Tryd.underlying20
  a20 := Tryd.isAgg20
  z20 := Tryd.sizeOf20
  v20 := Tryd.zeroValue20
  i20 := by kernel_rfl
  t21 := Tryd.underlying21
  a21 := Tryd.isAgg21
  z21 := Tryd.sizeOf21
  v21 := Tryd.zeroValue21
  i21 := by kernel_rfl
  t22 := Tryd.underlying48
  a22 := Tryd.isAgg48
  z22 := Tryd.sizeOf48
  v22 := Tryd.zeroValue48
  i22 := by kernel_rfl
  t24 := Tryd.underlying66
  a24 := Tryd.isAgg66
  z24 := Tryd.sizeOf66
  v24 := Tryd.zeroValue66
  i24 := by kernel_rfl
  t26 := Tryd.underlying68
  a26 := Tryd.isAgg68
  z26 := Tryd.sizeOf68
  v26 := Tryd.zeroValue68
  i26 := by kernel_rfl
  t28 := Tryd.underlying72
  a28 := Tryd.isAgg72
  z28 := Tryd.sizeOf72
  v28 := Tryd.zeroValue72
  i28 := by kernel_rfl
  t31 := Tryd.underlying93
  a31 := Tryd.isAgg93
  z31 := Tryd.sizeOf93
  v31 := Tryd.zeroValue93
  i31 := by kernel_rfl
  t34 := Tryd.underlying99
  a34 := Tryd.isAgg99
  z34 := Tryd.sizeOf99
  v34 := Tryd.zeroValue99
  i34 := by kernel_rfl
  t35 := Tryd.underlying123
  a35 := Tryd.isAgg123
  z35 := Tryd.sizeOf123
  v35 := Tryd.zeroValue123
  i35 := by kernel_rfl
  t37 := Tryd.underlying100
  a37 := Tryd.isAgg100
  z37 := Tryd.sizeOf100
  v37 := Tryd.zeroValue100
  i37 := by kernel_rfl
  t43 := Tryd.underlying150
  a43 := Tryd.isAgg150
  z43 := Tryd.sizeOf150
  v43 := Tryd.zeroValue150
  i43 := by kernel_rfl
  g0 := by kernel_rfl
  m0 := by kernel_rfl }
open Go.RowKit in
/-- (*bytes.Buffer).WriteRune, AT A RUNE OF ASCII: (1, nil); THE BUFFER HOLDS ONE BYTE MORE: r. The frames: as WriteByte's '_k'. (LAID: no walk: one application.) -/
theorem Tryd.Buffer_WriteRune_ascii (B b : Nat) (bs : List Value) (r : Int) (h0 : 0 ≤ r) (h128 : r < 128) (w : World) (h : Lib.IsBuffer 68 5 B b bs w) (hBw : B ≤ w.heap.size) (h1 : ∀ v ∈ bs, v.oneCell' = true) (hlim : bs.length + 1 ≤ 140737488355328) :
    Calls Tryd.prog 78 #[.pointer (some ⟨b, 0, none⟩), .int .i32 r] w fun e w' => e = .returned (.tuple #[.int .i64 1, .nilIface]) ∧ Lib.IsBuffer 68 5 B b (bs ++ [.int .u8 r]) w' ∧ Below B w w' ∧ Lib.OthersKept 5 (some b) w w' := Any.Buffer_WriteRune_ascii Tryd.laysWr5 B b bs r h0 h128 w h hBw h1 hlim
end Go.Proofs
