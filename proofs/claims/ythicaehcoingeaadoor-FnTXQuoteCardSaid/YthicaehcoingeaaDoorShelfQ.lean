/-
  DERIVED: THE SHELF's CONTRACTS AT THIS DUMP, IN PLAIN WORDS (tools/lay-plain.mjs out of 'ZzCut.lean', which tools/lay-shelf.mjs wrote): THE SAME DECLARATIONS UNDER THE SAME NAMES: 'import', 'namespace', 'open', 'def', 'theorem' AND NOTHING ELSE: no command of the shelf's: FOR A HAND-IN. Each laying: the table of numbers ('.._ren') and one theorem, a field a fact of the dump's own or the kernel's comparison; each contract: ONE APPLICATION.
-/
import Derived.Shelf.LaysM
import Derived.Shelf.Bytes.WriteByte
import Derived.Shelf.Bytes.WriteString
import Derived.Shelf.Bytes.String
import Derived.Ground.MnProg
import Derived.Test.YthicaehcoingeaaDoorProg
namespace Go.Proofs
open Go.Shelf
def Tryd.laysM179_ren : Go.Shelf.Ren := ⟨fun | 179 => 77 | 251 => 94 | 252 => 95 | 181 => 112 | 184 => 113 | 290 => 114 | 324 => 127 | n => n, fun | 130 => 117 | 5 => 5 | 75 => 75 | 0 => 0 | 93 => 120 | 91 => 118 | 3 => 3 | 131 => 141 | 4 => 4 | 37 => 23 | 20 => 20 | 80 => 125 | 9 => 9 | n => n, fun | 14 => 7 | n => n⟩
theorem Tryd.laysM179 : Go.Proofs.LaysM.n179 Tryd.prog Tryd.laysM179_ren := {
  mixed := by kernel_rfl
  f179 := Tryd.func77.trans (congrArg some (by kernel_rfl))
  f181 := Tryd.func112.trans (congrArg some (by kernel_rfl))
  f184 := Tryd.func113.trans (congrArg some (by kernel_rfl))
  f251 := Tryd.func94.trans (congrArg some (by kernel_rfl))
  f252 := Tryd.func95.trans (congrArg some (by kernel_rfl))
  f290 := Tryd.func114.trans (congrArg some (by kernel_rfl))
  f324 := Tryd.func127.trans (congrArg some (by kernel_rfl))
  t0 := Tryd.underlying0
  a0 := Tryd.isAgg0
  z0 := Tryd.sizeOf0
  v0 := Tryd.zeroValue0
  t3 := Tryd.underlying3
  a3 := Tryd.isAgg3
  z3 := Tryd.sizeOf3
  v3 := Tryd.zeroValue3
  t4 := Tryd.underlying4
  a4 := Tryd.isAgg4
  z4 := Tryd.sizeOf4
  v4 := Tryd.zeroValue4
  t5 := Tryd.underlying5
  a5 := Tryd.isAgg5
  z5 := Tryd.sizeOf5
  v5 := Tryd.zeroValue5
  t20 := Tryd.underlying20
  a20 := Tryd.isAgg20
  z20 := Tryd.sizeOf20
  v20 := Tryd.zeroValue20
  t37 := Tryd.underlying23
  a37 := Tryd.isAgg23
  z37 := Tryd.sizeOf23
  v37 := Tryd.zeroValue23
  t75 := Tryd.underlying75
  a75 := Tryd.isAgg75
  z75 := Tryd.sizeOf75
  v75 := Tryd.zeroValue75
  t91 := Tryd.underlying118
  a91 := Tryd.isAgg118
  z91 := Tryd.sizeOf118
  v91 := Tryd.zeroValue118
  t93 := Tryd.underlying120
  a93 := Tryd.isAgg120
  z93 := Tryd.sizeOf120
  v93 := Tryd.zeroValue120
  t130 := Tryd.underlying117
  a130 := Tryd.isAgg117
  z130 := Tryd.sizeOf117
  v130 := Tryd.zeroValue117
  t131 := Tryd.underlying141
  a131 := Tryd.isAgg141
  z131 := Tryd.sizeOf141
  v131 := Tryd.zeroValue141
  g14 := by kernel_rfl
  t9 := Tryd.underlying9
  a9 := Tryd.isAgg9
  z9 := Tryd.sizeOf9
  v9 := Tryd.zeroValue9
  t80 := Tryd.underlying125
  a80 := Tryd.isAgg125
  z80 := Tryd.sizeOf125
  v80 := Tryd.zeroValue125
  i0 := by kernel_rfl
  i3 := by kernel_rfl
  i4 := by kernel_rfl
  i5 := by kernel_rfl
  i9 := by kernel_rfl
  i20 := by kernel_rfl
  i37 := by kernel_rfl
  i75 := by kernel_rfl
  i80 := by kernel_rfl
  i91 := by kernel_rfl
  i93 := by kernel_rfl
  i130 := by kernel_rfl
  i131 := by kernel_rfl
  m14 := by kernel_rfl }
open Go.RowKit in
/-- (*bytes.Buffer).WriteByte: "WriteByte appends the byte c to the buffer, growing the buffer as needed. The returned error is always nil". (LAID: no walk: one application.) -/
theorem Tryd.Buffer_WriteByte (B b : Nat) (bs : List Value) (c : Int) (w : World) (h : Lib.IsBuffer 120 5 B b bs w) (hBw : B ≤ w.heap.size) (h1 : ∀ v ∈ bs, v.oneCell' = true) (hlim : bs.length + 1 ≤ 140737488355328) :
    Calls Tryd.prog 77 #[.pointer (some ⟨b, 0, none⟩), .int .u8 c] w fun e w' => e = .returned .nilIface ∧ Lib.IsBuffer 120 5 B b (bs ++ [.int .u8 c]) w' ∧ Below B w w' := Any.Buffer_WriteByte Tryd.laysM179 B b bs c w h hBw h1 hlim
def Tryd.laysM178_ren : Go.Shelf.Ren := ⟨fun | 178 => 78 | 251 => 94 | 252 => 95 | 181 => 112 | 184 => 113 | 290 => 114 | 324 => 127 | n => n, fun | 130 => 117 | 9 => 9 | 3 => 3 | 75 => 75 | 0 => 0 | 93 => 120 | 91 => 118 | 131 => 141 | 4 => 4 | 37 => 23 | 20 => 20 | 80 => 125 | 5 => 5 | n => n, fun | 14 => 7 | n => n⟩
theorem Tryd.laysM178 : Go.Proofs.LaysM.n178 Tryd.prog Tryd.laysM178_ren := {
  mixed := by kernel_rfl
  f178 := Tryd.func78.trans (congrArg some (by kernel_rfl))
  f181 := Tryd.func112.trans (congrArg some (by kernel_rfl))
  f184 := Tryd.func113.trans (congrArg some (by kernel_rfl))
  f251 := Tryd.func94.trans (congrArg some (by kernel_rfl))
  f252 := Tryd.func95.trans (congrArg some (by kernel_rfl))
  f290 := Tryd.func114.trans (congrArg some (by kernel_rfl))
  f324 := Tryd.func127.trans (congrArg some (by kernel_rfl))
  t0 := Tryd.underlying0
  a0 := Tryd.isAgg0
  z0 := Tryd.sizeOf0
  v0 := Tryd.zeroValue0
  t3 := Tryd.underlying3
  a3 := Tryd.isAgg3
  z3 := Tryd.sizeOf3
  v3 := Tryd.zeroValue3
  t4 := Tryd.underlying4
  a4 := Tryd.isAgg4
  z4 := Tryd.sizeOf4
  v4 := Tryd.zeroValue4
  t9 := Tryd.underlying9
  a9 := Tryd.isAgg9
  z9 := Tryd.sizeOf9
  v9 := Tryd.zeroValue9
  t20 := Tryd.underlying20
  a20 := Tryd.isAgg20
  z20 := Tryd.sizeOf20
  v20 := Tryd.zeroValue20
  t37 := Tryd.underlying23
  a37 := Tryd.isAgg23
  z37 := Tryd.sizeOf23
  v37 := Tryd.zeroValue23
  t75 := Tryd.underlying75
  a75 := Tryd.isAgg75
  z75 := Tryd.sizeOf75
  v75 := Tryd.zeroValue75
  t91 := Tryd.underlying118
  a91 := Tryd.isAgg118
  z91 := Tryd.sizeOf118
  v91 := Tryd.zeroValue118
  t93 := Tryd.underlying120
  a93 := Tryd.isAgg120
  z93 := Tryd.sizeOf120
  v93 := Tryd.zeroValue120
  t130 := Tryd.underlying117
  a130 := Tryd.isAgg117
  z130 := Tryd.sizeOf117
  v130 := Tryd.zeroValue117
  t131 := Tryd.underlying141
  a131 := Tryd.isAgg141
  z131 := Tryd.sizeOf141
  v131 := Tryd.zeroValue141
  g14 := by kernel_rfl
  t5 := Tryd.underlying5
  a5 := Tryd.isAgg5
  z5 := Tryd.sizeOf5
  v5 := Tryd.zeroValue5
  t80 := Tryd.underlying125
  a80 := Tryd.isAgg125
  z80 := Tryd.sizeOf125
  v80 := Tryd.zeroValue125
  i0 := by kernel_rfl
  i3 := by kernel_rfl
  i4 := by kernel_rfl
  i5 := by kernel_rfl
  i9 := by kernel_rfl
  i20 := by kernel_rfl
  i37 := by kernel_rfl
  i75 := by kernel_rfl
  i80 := by kernel_rfl
  i91 := by kernel_rfl
  i93 := by kernel_rfl
  i130 := by kernel_rfl
  i131 := by kernel_rfl
  m14 := by kernel_rfl }
open Go.RowKit in
/-- (*bytes.Buffer).WriteString: "WriteString appends the contents of s to the buffer, growing the buffer as needed. The return value n is the length of s; err is always nil." (LAID: no walk: one application.) -/
theorem Tryd.Buffer_WriteString (B b : Nat) (bs : List Value) (s : ByteArray) (w : World) (h : Lib.IsBuffer 120 5 B b bs w) (hBw : B ≤ w.heap.size) (h1 : ∀ v ∈ bs, v.oneCell' = true) (hlim : bs.length + s.size ≤ 140737488355328) :
    Calls Tryd.prog 78 #[.pointer (some ⟨b, 0, none⟩), .string s] w fun e w' => e = .returned (.tuple #[.int .i64 s.size, .nilIface]) ∧ Lib.IsBuffer 120 5 B b (bs ++ Lib.byteCells s.data.toList) w' ∧ Below B w w' := Any.Buffer_WriteString Tryd.laysM178 B b bs s w h hBw h1 hlim
def Tryd.laysM182_ren : Go.Shelf.Ren := ⟨fun | 182 => 80 | n => n, fun | 130 => 117 | 9 => 9 | 4 => 4 | 0 => 0 | 93 => 120 | 37 => 23 | 3 => 3 | 91 => 118 | 5 => 5 | n => n, fun | n => n⟩
theorem Tryd.laysM182 : Go.Proofs.LaysM.n182 Tryd.prog Tryd.laysM182_ren := {
  mixed := by kernel_rfl
  f182 := Tryd.func80.trans (congrArg some (by kernel_rfl))
  t0 := Tryd.underlying0
  a0 := Tryd.isAgg0
  z0 := Tryd.sizeOf0
  v0 := Tryd.zeroValue0
  t3 := Tryd.underlying3
  a3 := Tryd.isAgg3
  z3 := Tryd.sizeOf3
  v3 := Tryd.zeroValue3
  t4 := Tryd.underlying4
  a4 := Tryd.isAgg4
  z4 := Tryd.sizeOf4
  v4 := Tryd.zeroValue4
  t9 := Tryd.underlying9
  a9 := Tryd.isAgg9
  z9 := Tryd.sizeOf9
  v9 := Tryd.zeroValue9
  t37 := Tryd.underlying23
  a37 := Tryd.isAgg23
  z37 := Tryd.sizeOf23
  v37 := Tryd.zeroValue23
  t93 := Tryd.underlying120
  a93 := Tryd.isAgg120
  z93 := Tryd.sizeOf120
  v93 := Tryd.zeroValue120
  t130 := Tryd.underlying117
  a130 := Tryd.isAgg117
  z130 := Tryd.sizeOf117
  v130 := Tryd.zeroValue117
  t5 := Tryd.underlying5
  a5 := Tryd.isAgg5
  z5 := Tryd.sizeOf5
  v5 := Tryd.zeroValue5
  t91 := Tryd.underlying118
  a91 := Tryd.isAgg118
  z91 := Tryd.sizeOf118
  v91 := Tryd.zeroValue118
  i0 := by kernel_rfl
  i3 := by kernel_rfl
  i4 := by kernel_rfl
  i5 := by kernel_rfl
  i9 := by kernel_rfl
  i37 := by kernel_rfl
  i91 := by kernel_rfl
  i93 := by kernel_rfl
  i130 := by kernel_rfl }
open Go.RowKit in
/-- (*bytes.Buffer).String: "String returns the contents of the unread portion of the buffer as a string.": THE BYTES THAT WERE WRITTEN. The world is as it was but for the count of draws (the statement has two reads: its order is drawn). (LAID: no walk: one application.) -/
theorem Tryd.Buffer_String (B b : Nat) (l : List UInt8) (w : World) (h : Lib.IsBuffer 120 5 B b (Lib.byteCells l) w) :
    Calls Tryd.prog 80 #[.pointer (some ⟨b, 0, none⟩)] w fun e w' => e = .returned (.string ⟨l.toArray⟩) ∧ ∃ n, w' = w.drewN n := Any.Buffer_String Tryd.laysM182 B b l w h
end Go.Proofs
