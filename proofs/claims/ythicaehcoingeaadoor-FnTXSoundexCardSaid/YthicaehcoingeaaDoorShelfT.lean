import Derived.Test.YthicaehcoingeaaDoorShelfS
import Derived.Shelf.Strings.BuilderRune
namespace Go.Proofs
open Go.Shelf
set_option maxRecDepth 100000
def Tryd.lays168_ren : Go.Shelf.Ren := ⟨fun | 158 => 83 | 165 => 100 | 166 => 101 | 167 => 102 | 169 => 88 | 230 => 103 | 203 => 104 | 240 => 106 | 241 => 116 | 197 => 71 | 118 => 98 | 168 => 86 | 270 => 117 | 262 => 118 | 276 => 121 | 277 => 128 | 260 => 91 | 242 => 107 | 313 => 129 | 278 => 122 | 274 => 140 | 275 => 141 | n => n, fun | 9 => 9 | 4 => 4 | 3 => 3 | 5 => 5 | 72 => 131 | 0 => 0 | 76 => 122 | 75 => 75 | 107 => 69 | 70 => 129 | 20 => 20 | 37 => 23 | 127 => 151 | 21 => 21 | 105 => 104 | 164 => 178 | 162 => 184 | 203 => 182 | 119 => 148 | 46 => 43 | 139 => 158 | 138 => 157 | 51 => 57 | 160 => 197 | 208 => 209 | 206 => 207 | 80 => 125 | n => n, fun | 13 => 9 | 3 => 5 | 4 => 6 | n => n⟩
theorem Tryd.lays168 : Go.Proofs.Lays.n168 Tryd.prog Tryd.lays168_ren := {
  mixed := by kernel_rfl
  f168 := Tryd.func86.trans (congrArg some (by kernel_rfl))
  f240 := Tryd.func106.trans (congrArg some (by kernel_rfl))
  f242 := Tryd.func107.trans (congrArg some (by kernel_rfl))
  f276 := Tryd.func121.trans (congrArg some (by kernel_rfl))
  f278 := Tryd.func122.trans (congrArg some (by kernel_rfl))
  t0 := Tryd.underlying0
  a0 := Tryd.isAgg0
  z0 := Tryd.sizeOf0
  v0 := Tryd.zeroValue0
  t3 := Tryd.underlying3
  a3 := Tryd.isAgg3
  z3 := Tryd.sizeOf3
  v3 := Tryd.zeroValue3
  t4 := Tryd.underlying4
  a4 := Tryd.isAgg4
  z4 := Tryd.sizeOf4
  v4 := Tryd.zeroValue4
  t5 := Tryd.underlying5
  a5 := Tryd.isAgg5
  z5 := Tryd.sizeOf5
  v5 := Tryd.zeroValue5
  t9 := Tryd.underlying9
  a9 := Tryd.isAgg9
  z9 := Tryd.sizeOf9
  v9 := Tryd.zeroValue9
  t20 := Tryd.underlying20
  a20 := Tryd.isAgg20
  z20 := Tryd.sizeOf20
  v20 := Tryd.zeroValue20
  t21 := Tryd.underlying21
  a21 := Tryd.isAgg21
  z21 := Tryd.sizeOf21
  v21 := Tryd.zeroValue21
  t37 := Tryd.underlying23
  a37 := Tryd.isAgg23
  z37 := Tryd.sizeOf23
  v37 := Tryd.zeroValue23
  t46 := Tryd.underlying43
  a46 := Tryd.isAgg43
  z46 := Tryd.sizeOf43
  v46 := Tryd.zeroValue43
  t51 := Tryd.underlying57
  a51 := Tryd.isAgg57
  z51 := Tryd.sizeOf57
  v51 := Tryd.zeroValue57
  t70 := Tryd.underlying129
  a70 := Tryd.isAgg129
  z70 := Tryd.sizeOf129
  v70 := Tryd.zeroValue129
  t72 := Tryd.underlying131
  a72 := Tryd.isAgg131
  z72 := Tryd.sizeOf131
  v72 := Tryd.zeroValue131
  t75 := Tryd.underlying75
  a75 := Tryd.isAgg75
  z75 := Tryd.sizeOf75
  v75 := Tryd.zeroValue75
  t164 := Tryd.underlying178
  a164 := Tryd.isAgg178
  z164 := Tryd.sizeOf178
  v164 := Tryd.zeroValue178 }
theorem Tryd.Builder_Extra_168 : Builder.Extra Tryd.prog Tryd.lays168_ren where
  sizeBuilder := by kernel_rfl
  liesBuilder := by kernel_rfl
  t5 := Tryd.underlying5
  a5 := Tryd.isAgg5
  z5 := Tryd.sizeOf5
  v5 := Tryd.zeroValue5
  infoByte := by kernel_rfl
  cellsByte := by kernel_rfl
  sizeByte := by kernel_rfl
  neB5 := by decide
open Go.RowKit in
/-- (*strings.Builder).WriteRune: "WriteRune appends the UTF-8 encoding of Unicode code point r to b's buffer. It returns the length of r and a nil error.": EVERY RUNE (every int32: what is no rune goes in as U+FFFD's three bytes): 'Lib.runeCells r' (as bytes: 'Lib.encodeRune r': 'Lib.byteCells_encodeRune'); UNDER Go's OWN LIMIT: the new length takes at most 2^47 bytes. THE FORM '_k': OVER 'Lib.IsBuilderF', WITH THE FRAME THAT REACHES ABOVE THE BUILDER ('Lib.OthersKept'). (LAID: no walk: one application.) -/
theorem Tryd.Builder_WriteRune_k (B b : Nat) (bs : List Value) (r : Int) (hr0 : -2147483648 ≤ r) (hr1 : r ≤ 2147483647) (w : World) (h : Lib.IsBuilderF 131 5 B b bs w) (hlen : bs.length + 4 ≤ 140737488355328) (hBw : B ≤ w.heap.size) :
    Calls Tryd.prog 86 #[.pointer (some ⟨b, 0, none⟩), .int .i32 r] w fun e w' => e = .returned (.tuple #[.int .i64 (Lib.runeCells r).length, .nilIface]) ∧ (Lib.BuilderAtF 131 5 B b (.pointer (some ⟨b, 0, none⟩)) (bs ++ Lib.runeCells r) w' ∧ Below B w w' ∧ Lib.OthersKept 5 (some b) w w') := Any.Builder_WriteRune_k Tryd.lays168 Tryd.Builder_Extra_168 B b bs r hr0 hr1 w h hlen hBw
end Go.Proofs
