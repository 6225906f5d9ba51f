/-
  DERIVED: THE SHELF's CONTRACTS AT THIS DUMP, IN PLAIN WORDS (tools/lay-plain.mjs out of 'ZzCut.lean', which tools/lay-shelf.mjs wrote): THE SAME DECLARATIONS UNDER THE SAME NAMES: 'import', 'namespace', 'open', 'def', 'theorem' AND NOTHING ELSE: no command of the shelf's: FOR A HAND-IN. Each laying: the table of numbers ('.._ren') and one theorem, a field a fact of the dump's own or the kernel's comparison; each contract: ONE APPLICATION.
-/
import Derived.Shelf.Strings.OnBuilder
import Derived.Shelf.Strings.BuilderF
import Derived.Shelf.Strings.BuilderK
import Derived.Ground.MnProg
import Derived.Shelf.Unicode.Props
import Derived.Test.YthicaehcoingeaaDoorProg
namespace Go.Proofs
open Go.Shelf
def Tryd.lays170_ren : Go.Shelf.Ren := ⟨fun | 170 => 87 | n => n, fun | 70 => 129 | 3 => 3 | 0 => 0 | 72 => 131 | 37 => 23 | 5 => 5 | n => n, fun | n => n⟩
theorem Tryd.lays170 : Go.Proofs.Lays.n170 Tryd.prog Tryd.lays170_ren := {
  mixed := by kernel_rfl
  f170 := Tryd.func87.trans (congrArg some (by kernel_rfl))
  t0 := Tryd.underlying0
  a0 := Tryd.isAgg0
  z0 := Tryd.sizeOf0
  v0 := Tryd.zeroValue0
  t3 := Tryd.underlying3
  a3 := Tryd.isAgg3
  z3 := Tryd.sizeOf3
  v3 := Tryd.zeroValue3
  t37 := Tryd.underlying23
  a37 := Tryd.isAgg23
  z37 := Tryd.sizeOf23
  v37 := Tryd.zeroValue23
  t70 := Tryd.underlying129
  a70 := Tryd.isAgg129
  z70 := Tryd.sizeOf129
  v70 := Tryd.zeroValue129
  t72 := Tryd.underlying131
  a72 := Tryd.isAgg131
  z72 := Tryd.sizeOf131
  v72 := Tryd.zeroValue131 }
def Tryd.lays169_ren : Go.Shelf.Ren := ⟨fun | 169 => 88 | n => n, fun | 70 => 129 | 9 => 9 | 0 => 0 | 72 => 131 | 37 => 23 | 127 => 151 | 3 => 3 | 5 => 5 | n => n, fun | n => n⟩
theorem Tryd.lays169 : Go.Proofs.Lays.n169 Tryd.prog Tryd.lays169_ren := {
  mixed := by kernel_rfl
  f169 := Tryd.func88.trans (congrArg some (by kernel_rfl))
  t0 := Tryd.underlying0
  a0 := Tryd.isAgg0
  z0 := Tryd.sizeOf0
  v0 := Tryd.zeroValue0
  t3 := Tryd.underlying3
  a3 := Tryd.isAgg3
  z3 := Tryd.sizeOf3
  v3 := Tryd.zeroValue3
  t9 := Tryd.underlying9
  a9 := Tryd.isAgg9
  z9 := Tryd.sizeOf9
  v9 := Tryd.zeroValue9
  t37 := Tryd.underlying23
  a37 := Tryd.isAgg23
  z37 := Tryd.sizeOf23
  v37 := Tryd.zeroValue23
  t70 := Tryd.underlying129
  a70 := Tryd.isAgg129
  z70 := Tryd.sizeOf129
  v70 := Tryd.zeroValue129
  t72 := Tryd.underlying131
  a72 := Tryd.isAgg131
  z72 := Tryd.sizeOf131
  v72 := Tryd.zeroValue131
  t127 := Tryd.underlying151
  a127 := Tryd.isAgg151
  z127 := Tryd.sizeOf151
  v127 := Tryd.zeroValue151 }
theorem Tryd.Builder_Extra_169 : Builder.Extra Tryd.prog Tryd.lays169_ren := {
  sizeBuilder := by kernel_rfl
  liesBuilder := by kernel_rfl
  t5 := Tryd.underlying5
  a5 := Tryd.isAgg5
  z5 := Tryd.sizeOf5
  v5 := Tryd.zeroValue5
  infoByte := by kernel_rfl
  cellsByte := by kernel_rfl
  sizeByte := by kernel_rfl
  neB5 := by decide }
def Tryd.lays158_ren : Go.Shelf.Ren := ⟨fun | 158 => 83 | 165 => 100 | 166 => 101 | 167 => 102 | 169 => 88 | 230 => 103 | 203 => 104 | 240 => 106 | 241 => 116 | 197 => 71 | 118 => 98 | 168 => 86 | 270 => 117 | 262 => 118 | 276 => 121 | 277 => 128 | 260 => 91 | 242 => 107 | 313 => 129 | 278 => 122 | 274 => 140 | 275 => 141 | n => n, fun | 9 => 9 | 4 => 4 | 3 => 3 | 5 => 5 | 72 => 131 | 0 => 0 | 76 => 122 | 75 => 75 | 107 => 69 | 70 => 129 | 20 => 20 | 37 => 23 | 127 => 151 | 21 => 21 | 105 => 104 | 164 => 178 | 162 => 184 | 203 => 182 | 119 => 148 | 46 => 43 | 139 => 158 | 138 => 157 | 51 => 57 | 160 => 197 | 208 => 209 | 206 => 207 | 80 => 125 | n => n, fun | 13 => 9 | 3 => 5 | 4 => 6 | n => n⟩
theorem Tryd.lays158 : Go.Proofs.Lays.n158 Tryd.prog Tryd.lays158_ren := {
  mixed := by kernel_rfl
  f118 := Tryd.func98.trans (congrArg some (by kernel_rfl))
  f158 := Tryd.func83.trans (congrArg some (by kernel_rfl))
  f165 := Tryd.func100.trans (congrArg some (by kernel_rfl))
  f166 := Tryd.func101.trans (congrArg some (by kernel_rfl))
  f167 := Tryd.func102.trans (congrArg some (by kernel_rfl))
  f168 := Tryd.func86.trans (congrArg some (by kernel_rfl))
  f169 := Tryd.func88.trans (congrArg some (by kernel_rfl))
  f197 := Tryd.func71.trans (congrArg some (by kernel_rfl))
  f203 := Tryd.func104.trans (congrArg some (by kernel_rfl))
  f230 := Tryd.func103.trans (congrArg some (by kernel_rfl))
  f240 := Tryd.func106.trans (congrArg some (by kernel_rfl))
  f241 := Tryd.func116.trans (congrArg some (by kernel_rfl))
  f242 := Tryd.func107.trans (congrArg some (by kernel_rfl))
  f260 := Tryd.func91.trans (congrArg some (by kernel_rfl))
  f262 := Tryd.func118.trans (congrArg some (by kernel_rfl))
  f270 := Tryd.func117.trans (congrArg some (by kernel_rfl))
  f274 := Tryd.func140.trans (congrArg some (by kernel_rfl))
  f275 := Tryd.func141.trans (congrArg some (by kernel_rfl))
  f276 := Tryd.func121.trans (congrArg some (by kernel_rfl))
  f277 := Tryd.func128.trans (congrArg some (by kernel_rfl))
  f278 := Tryd.func122.trans (congrArg some (by kernel_rfl))
  f313 := Tryd.func129.trans (congrArg some (by kernel_rfl))
  t0 := Tryd.underlying0
  a0 := Tryd.isAgg0
  z0 := Tryd.sizeOf0
  v0 := Tryd.zeroValue0
  t3 := Tryd.underlying3
  a3 := Tryd.isAgg3
  z3 := Tryd.sizeOf3
  v3 := Tryd.zeroValue3
  t4 := Tryd.underlying4
  a4 := Tryd.isAgg4
  z4 := Tryd.sizeOf4
  v4 := Tryd.zeroValue4
  t5 := Tryd.underlying5
  a5 := Tryd.isAgg5
  z5 := Tryd.sizeOf5
  v5 := Tryd.zeroValue5
  t9 := Tryd.underlying9
  a9 := Tryd.isAgg9
  z9 := Tryd.sizeOf9
  v9 := Tryd.zeroValue9
  t20 := Tryd.underlying20
  a20 := Tryd.isAgg20
  z20 := Tryd.sizeOf20
  v20 := Tryd.zeroValue20
  t21 := Tryd.underlying21
  a21 := Tryd.isAgg21
  z21 := Tryd.sizeOf21
  v21 := Tryd.zeroValue21
  t37 := Tryd.underlying23
  a37 := Tryd.isAgg23
  z37 := Tryd.sizeOf23
  v37 := Tryd.zeroValue23
  t46 := Tryd.underlying43
  a46 := Tryd.isAgg43
  z46 := Tryd.sizeOf43
  v46 := Tryd.zeroValue43
  t51 := Tryd.underlying57
  a51 := Tryd.isAgg57
  z51 := Tryd.sizeOf57
  v51 := Tryd.zeroValue57
  t70 := Tryd.underlying129
  a70 := Tryd.isAgg129
  z70 := Tryd.sizeOf129
  v70 := Tryd.zeroValue129
  t72 := Tryd.underlying131
  a72 := Tryd.isAgg131
  z72 := Tryd.sizeOf131
  v72 := Tryd.zeroValue131
  t75 := Tryd.underlying75
  a75 := Tryd.isAgg75
  z75 := Tryd.sizeOf75
  v75 := Tryd.zeroValue75
  t76 := Tryd.underlying122
  a76 := Tryd.isAgg122
  z76 := Tryd.sizeOf122
  v76 := Tryd.zeroValue122
  t105 := Tryd.underlying104
  a105 := Tryd.isAgg104
  z105 := Tryd.sizeOf104
  v105 := Tryd.zeroValue104
  t107 := Tryd.underlying69
  a107 := Tryd.isAgg69
  z107 := Tryd.sizeOf69
  v107 := Tryd.zeroValue69
  t119 := Tryd.underlying148
  a119 := Tryd.isAgg148
  z119 := Tryd.sizeOf148
  t127 := Tryd.underlying151
  a127 := Tryd.isAgg151
  z127 := Tryd.sizeOf151
  v127 := Tryd.zeroValue151
  t138 := Tryd.underlying157
  a138 := Tryd.isAgg157
  z138 := Tryd.sizeOf157
  v138 := Tryd.zeroValue157
  t139 := Tryd.underlying158
  a139 := Tryd.isAgg158
  z139 := Tryd.sizeOf158
  v139 := Tryd.zeroValue158
  t160 := Tryd.underlying197
  a160 := Tryd.isAgg197
  z160 := Tryd.sizeOf197
  v160 := Tryd.zeroValue197
  t162 := Tryd.underlying184
  a162 := Tryd.isAgg184
  z162 := Tryd.sizeOf184
  v162 := Tryd.zeroValue184
  t164 := Tryd.underlying178
  a164 := Tryd.isAgg178
  z164 := Tryd.sizeOf178
  v164 := Tryd.zeroValue178
  t203 := Tryd.underlying182
  a203 := Tryd.isAgg182
  z203 := Tryd.sizeOf182
  v203 := Tryd.zeroValue182
  t206 := Tryd.underlying207
  a206 := Tryd.isAgg207
  z206 := Tryd.sizeOf207
  v206 := Tryd.zeroValue207
  t208 := Tryd.underlying209
  a208 := Tryd.isAgg209
  z208 := Tryd.sizeOf209
  v208 := Tryd.zeroValue209
  g3 := by kernel_rfl
  g4 := by kernel_rfl
  g13 := by kernel_rfl }
theorem Tryd.Builder_Extra_158 : Builder.Extra Tryd.prog Tryd.lays158_ren := {
  sizeBuilder := by kernel_rfl
  liesBuilder := by kernel_rfl
  t5 := Tryd.underlying5
  a5 := Tryd.isAgg5
  z5 := Tryd.sizeOf5
  v5 := Tryd.zeroValue5
  infoByte := by kernel_rfl
  cellsByte := by kernel_rfl
  sizeByte := by kernel_rfl
  neB5 := by decide }
open Go.RowKit in
/-- strings.ToUpper: "ToUpper returns s with all Unicode letters mapped to their upper case.": ON ASCII TEXT OF AT MOST 2^47 BYTES. Below the heap's end the world is as it was: where a letter turns, the call makes a builder and its buffer. (LAID: no walk: one application.) -/
theorem Tryd.strings_ToUpper_ascii (s : ByteArray) (w : World) (hs : s.size ≤ 140737488355328) (hascii : ∀ (j : Nat) (b : UInt8), s.data.toList[j]? = some b → b.toNat < 128) :
    Calls Tryd.prog 83 #[.string s] w fun e w' => e = .returned (.string ⟨(Lib.toUpperA s.data.toList).toArray⟩) ∧ Below w.heap.size w w' := Any.strings_ToUpper_ascii Tryd.lays158 Tryd.Builder_Extra_158 s w hs hascii
open Go.RowKit in
/-- (*strings.Builder).Len: "Len returns the number of accumulated bytes; b.Len() == len(b.String()).": the world is as it was. (THE FORM '_f': 'Lib.IsBuilderF'.) (LAID: no walk: one application.) -/
theorem Tryd.Builder_Len_f (B b : Nat) (bs : List Value) (w : World) (h : Lib.IsBuilderF 131 5 B b bs w) :
    Calls Tryd.prog 87 #[.pointer (some ⟨b, 0, none⟩)] w fun e w' => e = .returned (.int .i64 bs.length) ∧ w' = w := Any.Builder_Len_f Tryd.lays170 B b bs w h
open Go.RowKit in
/-- (*strings.Builder).String: "String returns the accumulated string.": WHATEVER THE BUILDER HOLDS; THE FORM '_f': OF A BUILDER THAT MAY HAVE BEEN READ BEFORE; AND IT IS A BUILDER STILL, holding the same bytes: it can be written on. (LAID: no walk: one application.) -/
theorem Tryd.Builder_String_any_f (B b : Nat) (l : List UInt8) (w : World) (h : Lib.IsBuilderF 131 5 B b (Lib.byteCells l) w) (hBw : B ≤ w.heap.size) :
    Calls Tryd.prog 88 #[.pointer (some ⟨b, 0, none⟩)] w fun e w' => e = .returned (.string ⟨l.toArray⟩) ∧ (Lib.IsBuilderF 131 5 B b (Lib.byteCells l) w' ∧ Below B w w') := Any.Builder_String_any_f Tryd.lays169 Tryd.Builder_Extra_169 B b l w h hBw
open Go.RowKit in
/-- (*strings.Builder).String: "String returns the accumulated string.": WHATEVER THE BUILDER HOLDS; THE FORM '_k': OVER 'Lib.IsBuilderF' (a builder that 'String()' may have read), AND WITH THE FRAME THAT REACHES ABOVE THE BUILDER: 'Lib.OthersKept': every block that is not b and is no row of uint8's stands as it stood: the iterator of a range among them. (LAID: no walk: one application.) -/
theorem Tryd.Builder_String_any_k (B b : Nat) (l : List UInt8) (w : World) (h : Lib.IsBuilderF 131 5 B b (Lib.byteCells l) w) (hBw : B ≤ w.heap.size) :
    Calls Tryd.prog 88 #[.pointer (some ⟨b, 0, none⟩)] w fun e w' => e = .returned (.string ⟨l.toArray⟩) ∧ (Lib.IsBuilderF 131 5 B b (Lib.byteCells l) w' ∧ Below B w w' ∧ Lib.OthersKept 5 (some b) w w') := Any.Builder_String_any_k Tryd.lays169 Tryd.Builder_Extra_169 B b l w h hBw
def Tryd.lays200_ren : Go.Shelf.Ren := ⟨fun | 200 => 84 | 261 => 105 | 311 => 119 | 312 => 120 | n => n, fun | 21 => 21 | 4 => 4 | 51 => 57 | 5 => 5 | 119 => 148 | 0 => 0 | 141 => 150 | 196 => 171 | 193 => 168 | 3 => 3 | 198 => 173 | 49 => 54 | 194 => 169 | 201 => 176 | 226 => 185 | 46 => 43 | 227 => 186 | n => n, fun | 7 => 3 | 8 => 4 | n => n⟩
theorem Tryd.lays200 : Go.Proofs.Lays.n200 Tryd.prog Tryd.lays200_ren := {
  mixed := by kernel_rfl
  f200 := Tryd.func84.trans (congrArg some (by kernel_rfl))
  f261 := Tryd.func105.trans (congrArg some (by kernel_rfl))
  f311 := Tryd.func119.trans (congrArg some (by kernel_rfl))
  f312 := Tryd.func120.trans (congrArg some (by kernel_rfl))
  t0 := Tryd.underlying0
  a0 := Tryd.isAgg0
  z0 := Tryd.sizeOf0
  v0 := Tryd.zeroValue0
  t3 := Tryd.underlying3
  a3 := Tryd.isAgg3
  z3 := Tryd.sizeOf3
  v3 := Tryd.zeroValue3
  t4 := Tryd.underlying4
  a4 := Tryd.isAgg4
  z4 := Tryd.sizeOf4
  v4 := Tryd.zeroValue4
  t5 := Tryd.underlying5
  a5 := Tryd.isAgg5
  z5 := Tryd.sizeOf5
  v5 := Tryd.zeroValue5
  t21 := Tryd.underlying21
  a21 := Tryd.isAgg21
  z21 := Tryd.sizeOf21
  v21 := Tryd.zeroValue21
  t46 := Tryd.underlying43
  a46 := Tryd.isAgg43
  z46 := Tryd.sizeOf43
  v46 := Tryd.zeroValue43
  t49 := Tryd.underlying54
  a49 := Tryd.isAgg54
  z49 := Tryd.sizeOf54
  v49 := Tryd.zeroValue54
  t51 := Tryd.underlying57
  a51 := Tryd.isAgg57
  z51 := Tryd.sizeOf57
  v51 := Tryd.zeroValue57
  t119 := Tryd.underlying148
  a119 := Tryd.isAgg148
  z119 := Tryd.sizeOf148
  t141 := Tryd.underlying150
  a141 := Tryd.isAgg150
  z141 := Tryd.sizeOf150
  v141 := Tryd.zeroValue150
  t193 := Tryd.underlying168
  a193 := Tryd.isAgg168
  z193 := Tryd.sizeOf168
  v193 := Tryd.zeroValue168
  t194 := Tryd.underlying169
  a194 := Tryd.isAgg169
  z194 := Tryd.sizeOf169
  v194 := Tryd.zeroValue169
  t196 := Tryd.underlying171
  a196 := Tryd.isAgg171
  z196 := Tryd.sizeOf171
  v196 := Tryd.zeroValue171
  t198 := Tryd.underlying173
  a198 := Tryd.isAgg173
  z198 := Tryd.sizeOf173
  v198 := Tryd.zeroValue173
  t201 := Tryd.underlying176
  a201 := Tryd.isAgg176
  z201 := Tryd.sizeOf176
  v201 := Tryd.zeroValue176
  t226 := Tryd.underlying185
  a226 := Tryd.isAgg185
  z226 := Tryd.sizeOf185
  v226 := Tryd.zeroValue185
  t227 := Tryd.underlying186
  a227 := Tryd.isAgg186
  z227 := Tryd.sizeOf186
  v227 := Tryd.zeroValue186
  g7 := by kernel_rfl
  g8 := by kernel_rfl }
open Go.RowKit Go.Lib in
theorem Tryd.unicode_IsLetter (c : Nat) (w : World) (hc : c < 256) (htab : Lib.TabIs Tryd.prog w "unicode.properties" .u8 Lib.propertiesTab) :
    Calls Tryd.prog 84 #[.int .i32 c] w fun e w' => e = .returned (.bool (Lib.isLetterL c)) ∧ w' = w := Any.unicode_IsLetter Tryd.lays200 (by kernel_rfl) c w hc htab
end Go.Proofs
