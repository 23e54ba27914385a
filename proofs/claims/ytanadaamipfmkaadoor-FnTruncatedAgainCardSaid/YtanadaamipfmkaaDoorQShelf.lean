/-
  DERIVED: THE SHELF's CONTRACTS AT THIS DUMP, IN PLAIN WORDS (tools/lay-plain.mjs out of 'TrydShelf.lean', which tools/lay-shelf.mjs wrote): THE SAME DECLARATIONS UNDER THE SAME NAMES: 'import', 'namespace', 'open', 'def', 'theorem' AND NOTHING ELSE: no command of the shelf's: FOR A HAND-IN. Each laying: the table of numbers ('.._ren') and one theorem, a field a fact of the dump's own or the kernel's comparison; each contract: ONE APPLICATION.
-/
import Derived.Shelf.Strings.Builder1
import Derived.Shelf.Strings.Builder2
import Derived.Shelf.Strings.BuilderF
import Derived.Shelf.Strconv.Itoa0
import Derived.Shelf.Strconv.Itoa1
import Derived.Shelf.LaysM
import Derived.Shelf.Strconv.Itoa2
import Derived.Shelf.Strconv.Itoa3
import Derived.Shelf.Bytes.Len
import Derived.Shelf.Bytes.TryGrow
import Derived.Shelf.Bytes.GrowSliceCatch
import Derived.Shelf.Bytes.GrowSlice
import Derived.Shelf.Bytes.GrowRow0
import Derived.Shelf.Bytes.GrowRow
import Derived.Shelf.Bytes.GrowNil
import Derived.Shelf.Bytes.Grow
import Derived.Shelf.Bytes.WriteString
import Derived.Shelf.Bytes.ResetKept
import Derived.Shelf.Bytes.LenAt
import Derived.Shelf.Bytes.TryGrowAt
import Derived.Shelf.Strings.Prefix
import Derived.Shelf.Bits.Mul64
import Derived.Shelf.Strings.Repeat
import Derived.Test.YtanadaamipfmkaaDoorProg
namespace Go.Proofs
open Go.Shelf
def Tryd.laysM181_ren : Go.Shelf.Ren := ⟨fun | 181 => 110 | n => n, fun | 130 => 54 | 3 => 3 | 0 => 0 | 93 => 51 | 37 => 47 | 91 => 49 | 5 => 5 | n => n, fun | n => n⟩
theorem Tryd.laysM181 : Go.Proofs.LaysM.n181 Tryd.prog Tryd.laysM181_ren := {
  mixed := by kernel_rfl
  f181 := Tryd.func110.trans (congrArg some (by kernel_rfl))
  t0 := Tryd.underlying0
  a0 := Tryd.isAgg0
  z0 := Tryd.sizeOf0
  v0 := Tryd.zeroValue0
  t3 := Tryd.underlying3
  a3 := Tryd.isAgg3
  z3 := Tryd.sizeOf3
  v3 := Tryd.zeroValue3
  t37 := Tryd.underlying47
  a37 := Tryd.isAgg47
  z37 := Tryd.sizeOf47
  v37 := Tryd.zeroValue47
  t93 := Tryd.underlying51
  a93 := Tryd.isAgg51
  z93 := Tryd.sizeOf51
  v93 := Tryd.zeroValue51
  t130 := Tryd.underlying54
  a130 := Tryd.isAgg54
  z130 := Tryd.sizeOf54
  v130 := Tryd.zeroValue54
  t5 := Tryd.underlying5
  a5 := Tryd.isAgg5
  z5 := Tryd.sizeOf5
  v5 := Tryd.zeroValue5
  t91 := Tryd.underlying49
  a91 := Tryd.isAgg49
  z91 := Tryd.sizeOf49
  v91 := Tryd.zeroValue49
  i0 := by kernel_rfl
  i3 := by kernel_rfl
  i5 := by kernel_rfl
  i37 := by kernel_rfl
  i91 := by kernel_rfl
  i93 := by kernel_rfl
  i130 := by kernel_rfl }
def Tryd.laysM251_ren : Go.Shelf.Ren := ⟨fun | 251 => 85 | n => n, fun | 130 => 54 | 3 => 3 | 4 => 4 | 0 => 0 | 93 => 51 | 37 => 47 | 91 => 49 | 5 => 5 | n => n, fun | n => n⟩
theorem Tryd.laysM251 : Go.Proofs.LaysM.n251 Tryd.prog Tryd.laysM251_ren := {
  mixed := by kernel_rfl
  f251 := Tryd.func85.trans (congrArg some (by kernel_rfl))
  t0 := Tryd.underlying0
  a0 := Tryd.isAgg0
  z0 := Tryd.sizeOf0
  v0 := Tryd.zeroValue0
  t3 := Tryd.underlying3
  a3 := Tryd.isAgg3
  z3 := Tryd.sizeOf3
  v3 := Tryd.zeroValue3
  t4 := Tryd.underlying4
  a4 := Tryd.isAgg4
  z4 := Tryd.sizeOf4
  v4 := Tryd.zeroValue4
  t37 := Tryd.underlying47
  a37 := Tryd.isAgg47
  z37 := Tryd.sizeOf47
  v37 := Tryd.zeroValue47
  t93 := Tryd.underlying51
  a93 := Tryd.isAgg51
  z93 := Tryd.sizeOf51
  v93 := Tryd.zeroValue51
  t130 := Tryd.underlying54
  a130 := Tryd.isAgg54
  z130 := Tryd.sizeOf54
  v130 := Tryd.zeroValue54
  t5 := Tryd.underlying5
  a5 := Tryd.isAgg5
  z5 := Tryd.sizeOf5
  v5 := Tryd.zeroValue5
  t91 := Tryd.underlying49
  a91 := Tryd.isAgg49
  z91 := Tryd.sizeOf49
  v91 := Tryd.zeroValue49
  i0 := by kernel_rfl
  i3 := by kernel_rfl
  i4 := by kernel_rfl
  i5 := by kernel_rfl
  i37 := by kernel_rfl
  i91 := by kernel_rfl
  i93 := by kernel_rfl
  i130 := by kernel_rfl }
def Tryd.laysM290_ren : Go.Shelf.Ren := ⟨fun | 290 => 117 | 324 => 123 | n => n, fun | 37 => 47 | 3 => 3 | 0 => 0 | 4 => 4 | 20 => 20 | 75 => 56 | 5 => 5 | 80 => 59 | 9 => 9 | n => n, fun | 14 => 1 | n => n⟩
theorem Tryd.laysM290 : Go.Proofs.LaysM.n290 Tryd.prog Tryd.laysM290_ren := {
  mixed := by kernel_rfl
  f290 := Tryd.func117.trans (congrArg some (by kernel_rfl))
  f324 := Tryd.func123.trans (congrArg some (by kernel_rfl))
  t0 := Tryd.underlying0
  a0 := Tryd.isAgg0
  z0 := Tryd.sizeOf0
  v0 := Tryd.zeroValue0
  t3 := Tryd.underlying3
  a3 := Tryd.isAgg3
  z3 := Tryd.sizeOf3
  v3 := Tryd.zeroValue3
  t4 := Tryd.underlying4
  a4 := Tryd.isAgg4
  z4 := Tryd.sizeOf4
  v4 := Tryd.zeroValue4
  t20 := Tryd.underlying20
  a20 := Tryd.isAgg20
  z20 := Tryd.sizeOf20
  v20 := Tryd.zeroValue20
  t37 := Tryd.underlying47
  a37 := Tryd.isAgg47
  z37 := Tryd.sizeOf47
  v37 := Tryd.zeroValue47
  t75 := Tryd.underlying56
  a75 := Tryd.isAgg56
  z75 := Tryd.sizeOf56
  v75 := Tryd.zeroValue56
  g14 := by kernel_rfl
  t5 := Tryd.underlying5
  a5 := Tryd.isAgg5
  z5 := Tryd.sizeOf5
  v5 := Tryd.zeroValue5
  t9 := Tryd.underlying9
  a9 := Tryd.isAgg9
  z9 := Tryd.sizeOf9
  v9 := Tryd.zeroValue9
  t80 := Tryd.underlying59
  a80 := Tryd.isAgg59
  z80 := Tryd.sizeOf59
  v80 := Tryd.zeroValue59
  i0 := by kernel_rfl
  i3 := by kernel_rfl
  i4 := by kernel_rfl
  i5 := by kernel_rfl
  i9 := by kernel_rfl
  i20 := by kernel_rfl
  i37 := by kernel_rfl
  i75 := by kernel_rfl
  i80 := by kernel_rfl
  m14 := by kernel_rfl }
open Go.RowKit in
/-- bytes.growSlice: "growSlice grows b by n, preserving the original content of b.": OF A SLICE THAT LIES AT THE HEAD OF A ROW: a new row, number 'w.heap.size': it begins with b's l cells; its capacity has room for n more; whatever lay below is as it was. (LAID: no walk: one application.) -/
theorem Tryd.bytes_growSlice_row (g l c n : Nat) (cur : Array Value) (w : World) (hg : w.heap[g]? = some (.cells cur 5 (0, 0))) (hcs : cur.size = c) (hlc : l ≤ c) (hn : 1 ≤ n) (hlim : l + n ≤ 140737488355328) (hc2 : c ≤ 140737488355328) (h1 : ∀ v ∈ cur.toList.take l, v.oneCell' = true) :
    Calls Tryd.prog 117 #[.slice (some ⟨g, 0, none⟩) l c, .int .i64 n] w fun e w' => ∃ cap2 cells, e = .returned (.slice (some ⟨w.heap.size, 0, none⟩) l cap2) ∧ w'.heap[w.heap.size]? = some (.cells cells 5 (0, 0)) ∧
      cells.size = cap2 ∧ cells.toList.take l = cur.toList.take l ∧ l + n ≤ cap2 ∧ cap2 ≤ maxLen ∧ Below w.heap.size w w' := Any.bytes_growSlice_row Tryd.laysM290 g l c n cur w hg hcs hlc hn hlim hc2 h1
def Tryd.laysM178_ren : Go.Shelf.Ren := ⟨fun | 178 => 56 | 251 => 85 | 252 => 86 | 181 => 110 | 184 => 74 | 290 => 117 | 324 => 123 | n => n, fun | 130 => 54 | 9 => 9 | 3 => 3 | 75 => 56 | 0 => 0 | 93 => 51 | 91 => 49 | 131 => 108 | 4 => 4 | 37 => 47 | 20 => 20 | 80 => 59 | 5 => 5 | n => n, fun | 14 => 1 | n => n⟩
theorem Tryd.laysM178 : Go.Proofs.LaysM.n178 Tryd.prog Tryd.laysM178_ren := {
  mixed := by kernel_rfl
  f178 := Tryd.func56.trans (congrArg some (by kernel_rfl))
  f181 := Tryd.func110.trans (congrArg some (by kernel_rfl))
  f184 := Tryd.func74.trans (congrArg some (by kernel_rfl))
  f251 := Tryd.func85.trans (congrArg some (by kernel_rfl))
  f252 := Tryd.func86.trans (congrArg some (by kernel_rfl))
  f290 := Tryd.func117.trans (congrArg some (by kernel_rfl))
  f324 := Tryd.func123.trans (congrArg some (by kernel_rfl))
  t0 := Tryd.underlying0
  a0 := Tryd.isAgg0
  z0 := Tryd.sizeOf0
  v0 := Tryd.zeroValue0
  t3 := Tryd.underlying3
  a3 := Tryd.isAgg3
  z3 := Tryd.sizeOf3
  v3 := Tryd.zeroValue3
  t4 := Tryd.underlying4
  a4 := Tryd.isAgg4
  z4 := Tryd.sizeOf4
  v4 := Tryd.zeroValue4
  t9 := Tryd.underlying9
  a9 := Tryd.isAgg9
  z9 := Tryd.sizeOf9
  v9 := Tryd.zeroValue9
  t20 := Tryd.underlying20
  a20 := Tryd.isAgg20
  z20 := Tryd.sizeOf20
  v20 := Tryd.zeroValue20
  t37 := Tryd.underlying47
  a37 := Tryd.isAgg47
  z37 := Tryd.sizeOf47
  v37 := Tryd.zeroValue47
  t75 := Tryd.underlying56
  a75 := Tryd.isAgg56
  z75 := Tryd.sizeOf56
  v75 := Tryd.zeroValue56
  t91 := Tryd.underlying49
  a91 := Tryd.isAgg49
  z91 := Tryd.sizeOf49
  v91 := Tryd.zeroValue49
  t93 := Tryd.underlying51
  a93 := Tryd.isAgg51
  z93 := Tryd.sizeOf51
  v93 := Tryd.zeroValue51
  t130 := Tryd.underlying54
  a130 := Tryd.isAgg54
  z130 := Tryd.sizeOf54
  v130 := Tryd.zeroValue54
  t131 := Tryd.underlying108
  a131 := Tryd.isAgg108
  z131 := Tryd.sizeOf108
  v131 := Tryd.zeroValue108
  g14 := by kernel_rfl
  t5 := Tryd.underlying5
  a5 := Tryd.isAgg5
  z5 := Tryd.sizeOf5
  v5 := Tryd.zeroValue5
  t80 := Tryd.underlying59
  a80 := Tryd.isAgg59
  z80 := Tryd.sizeOf59
  v80 := Tryd.zeroValue59
  i0 := by kernel_rfl
  i3 := by kernel_rfl
  i4 := by kernel_rfl
  i5 := by kernel_rfl
  i9 := by kernel_rfl
  i20 := by kernel_rfl
  i37 := by kernel_rfl
  i75 := by kernel_rfl
  i80 := by kernel_rfl
  i91 := by kernel_rfl
  i93 := by kernel_rfl
  i130 := by kernel_rfl
  i131 := by kernel_rfl
  m14 := by kernel_rfl }
open Go.RowKit in
/-- (*bytes.Buffer).Len: "Len returns the number of bytes of the unread portion of the buffer; b.Len() == len(b.Bytes()).": the world is as it was but for the count of draws (the statement has two reads: its order is drawn). (LAID: no walk: one application.) -/
theorem Tryd.Buffer_Len_at (T : TypeId) (R : Nat → Option Value) (B b q : Nat) (bs : List Value) (w : World) (h : LibA.IsBuffer T R 5 B b q bs w) :
    Calls Tryd.prog 110 #[.pointer (some ⟨b, q, none⟩)] w fun e w' => e = .returned (.int .i64 bs.length) ∧ ∃ n, w' = w.drewN n := Any.Buffer_Len_at Tryd.laysM181 T R B b q bs w h
open Go.RowKit in
/-- (*bytes.Buffer).tryGrowByReslice: "tryGrowByReslice is an inlineable version of grow for the fast-case where the internal buffer only needs to be resliced. It returns the index where bytes should be written and whether it succeeded.": THERE IS ROOM: 'buf' is resliced to l + n. (LAID: no walk: one application.) -/
theorem Tryd.Buffer_tryGrow_room_at (b q : Nat) (ao : Option Addr) (l cap n : Nat) (w : World) (c0 : w.cell? ⟨b, q, none⟩ = some (.slice ao l cap)) (f0 : w.frozen? ⟨b, q, none⟩ = false) (hlc : l ≤ cap) (hcap : cap ≤ maxLen) (hn : n ≤ cap - l) :
    Calls Tryd.prog 85 #[.pointer (some ⟨b, q, none⟩), .int .i64 n] w fun e w' => e = .returned (.tuple #[.int .i64 l, .bool true]) ∧ w' = w.setCell ⟨b, q, none⟩ (.slice ao (l + n) cap) := Any.Buffer_tryGrow_room_at Tryd.laysM251 b q ao l cap n w c0 f0 hlc hcap hn
open Go.RowKit in
/-- .. THERE IS NONE: nothing turns. (LAID: no walk: one application.) -/
theorem Tryd.Buffer_tryGrow_none_at (b q : Nat) (ao : Option Addr) (l cap n : Nat) (w : World) (c0 : w.cell? ⟨b, q, none⟩ = some (.slice ao l cap)) (hlc : l ≤ cap) (hcap : cap ≤ maxLen) (hn : cap - l < n) :
    Calls Tryd.prog 85 #[.pointer (some ⟨b, q, none⟩), .int .i64 n] w fun e w' => e = .returned (.tuple #[.int .i64 0, .bool false]) ∧ w' = w := Any.Buffer_tryGrow_none_at Tryd.laysM251 b q ao l cap n w c0 hlc hcap hn
def Tryd.lays105_ren : Go.Shelf.Ren := ⟨fun | 105 => 51 | 212 => 79 | 99 => 80 | 165 => 81 | 166 => 82 | 170 => 83 | 169 => 84 | 263 => 112 | 264 => 113 | 206 => 114 | 240 => 115 | 241 => 116 | 276 => 121 | 277 => 122 | n => n, fun | 9 => 9 | 3 => 3 | 4 => 4 | 20 => 20 | 0 => 0 | 46 => 27 | 109 => 101 | 5 => 5 | 72 => 106 | 76 => 57 | 51 => 117 | 146 => 121 | 53 => 123 | 148 => 124 | 70 => 104 | 37 => 47 | 75 => 56 | 127 => 126 | 164 => 128 | 80 => 59 | n => n, fun | n => n⟩
theorem Tryd.lays105 : Go.Proofs.Lays.n105 Tryd.prog Tryd.lays105_ren := {
  mixed := by kernel_rfl
  f99 := Tryd.func80.trans (congrArg some (by kernel_rfl))
  f105 := Tryd.func51.trans (congrArg some (by kernel_rfl))
  f165 := Tryd.func81.trans (congrArg some (by kernel_rfl))
  f166 := Tryd.func82.trans (congrArg some (by kernel_rfl))
  f169 := Tryd.func84.trans (congrArg some (by kernel_rfl))
  f170 := Tryd.func83.trans (congrArg some (by kernel_rfl))
  f206 := Tryd.func114.trans (congrArg some (by kernel_rfl))
  f212 := Tryd.func79.trans (congrArg some (by kernel_rfl))
  f240 := Tryd.func115.trans (congrArg some (by kernel_rfl))
  f241 := Tryd.func116.trans (congrArg some (by kernel_rfl))
  f263 := Tryd.func112.trans (congrArg some (by kernel_rfl))
  f264 := Tryd.func113.trans (congrArg some (by kernel_rfl))
  f276 := Tryd.func121.trans (congrArg some (by kernel_rfl))
  f277 := Tryd.func122.trans (congrArg some (by kernel_rfl))
  t0 := Tryd.underlying0
  a0 := Tryd.isAgg0
  z0 := Tryd.sizeOf0
  v0 := Tryd.zeroValue0
  t3 := Tryd.underlying3
  a3 := Tryd.isAgg3
  z3 := Tryd.sizeOf3
  v3 := Tryd.zeroValue3
  t4 := Tryd.underlying4
  a4 := Tryd.isAgg4
  z4 := Tryd.sizeOf4
  v4 := Tryd.zeroValue4
  t5 := Tryd.underlying5
  a5 := Tryd.isAgg5
  z5 := Tryd.sizeOf5
  v5 := Tryd.zeroValue5
  t9 := Tryd.underlying9
  a9 := Tryd.isAgg9
  z9 := Tryd.sizeOf9
  v9 := Tryd.zeroValue9
  t20 := Tryd.underlying20
  a20 := Tryd.isAgg20
  z20 := Tryd.sizeOf20
  v20 := Tryd.zeroValue20
  t37 := Tryd.underlying47
  a37 := Tryd.isAgg47
  z37 := Tryd.sizeOf47
  v37 := Tryd.zeroValue47
  t46 := Tryd.underlying27
  a46 := Tryd.isAgg27
  z46 := Tryd.sizeOf27
  v46 := Tryd.zeroValue27
  t51 := Tryd.underlying117
  a51 := Tryd.isAgg117
  z51 := Tryd.sizeOf117
  v51 := Tryd.zeroValue117
  t53 := Tryd.underlying123
  a53 := Tryd.isAgg123
  z53 := Tryd.sizeOf123
  v53 := Tryd.zeroValue123
  t70 := Tryd.underlying104
  a70 := Tryd.isAgg104
  z70 := Tryd.sizeOf104
  v70 := Tryd.zeroValue104
  t72 := Tryd.underlying106
  a72 := Tryd.isAgg106
  z72 := Tryd.sizeOf106
  v72 := Tryd.zeroValue106
  t75 := Tryd.underlying56
  a75 := Tryd.isAgg56
  z75 := Tryd.sizeOf56
  v75 := Tryd.zeroValue56
  t76 := Tryd.underlying57
  a76 := Tryd.isAgg57
  z76 := Tryd.sizeOf57
  v76 := Tryd.zeroValue57
  t109 := Tryd.underlying101
  a109 := Tryd.isAgg101
  z109 := Tryd.sizeOf101
  v109 := Tryd.zeroValue101
  t127 := Tryd.underlying126
  a127 := Tryd.isAgg126
  z127 := Tryd.sizeOf126
  v127 := Tryd.zeroValue126
  t146 := Tryd.underlying121
  a146 := Tryd.isAgg121
  z146 := Tryd.sizeOf121
  v146 := Tryd.zeroValue121
  t148 := Tryd.underlying124
  a148 := Tryd.isAgg124
  z148 := Tryd.sizeOf124
  v148 := Tryd.zeroValue124
  t164 := Tryd.underlying128
  a164 := Tryd.isAgg128
  z164 := Tryd.sizeOf128
  v164 := Tryd.zeroValue128 }
theorem Tryd.Builder_Extra_105 : Builder.Extra Tryd.prog Tryd.lays105_ren := {
  sizeBuilder := by kernel_rfl
  liesBuilder := by kernel_rfl
  t5 := Tryd.underlying5
  a5 := Tryd.isAgg5
  z5 := Tryd.sizeOf5
  v5 := Tryd.zeroValue5
  infoByte := by kernel_rfl
  cellsByte := by kernel_rfl
  sizeByte := by kernel_rfl
  neB5 := by decide }
open Go.RowKit Go.Lib in
/-- **strings.Repeat: count ≥ 0, the result within one allocation: count copies of s.** (LAID: no walk: one application.) -/
theorem Tryd.strings_Repeat (s : ByteArray) (c : Nat) (w : World) (hc : c ≤ 9223372036854775807) (hlen : s.size * c ≤ 140737488355328) :
    Calls Tryd.prog 51 #[.string s, .int .i64 c] w fun e w' => e = .returned (.string ⟨(Lib.repeatL s.data.toList c).toArray⟩) ∧ Below w.heap.size w w' := Any.strings_Repeat Tryd.lays105 Tryd.Builder_Extra_105 s c w hc hlen
end Go.Proofs
