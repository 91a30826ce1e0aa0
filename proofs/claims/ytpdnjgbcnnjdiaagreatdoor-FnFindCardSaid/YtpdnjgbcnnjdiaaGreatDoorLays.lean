/-
  DERIVED: THE SHELF's CONTRACTS AT THIS DUMP, IN PLAIN WORDS (tools/lay-plain.mjs out of 'TryzShelfX.lean', which tools/lay-shelf.mjs wrote): THE SAME DECLARATIONS UNDER THE SAME NAMES: 'import', 'namespace', 'open', 'def', 'theorem' AND NOTHING ELSE: no command of the shelf's: FOR A HAND-IN. Each laying: the table of numbers ('.._ren') and one theorem, a field a fact of the dump's own or the kernel's comparison; each contract: ONE APPLICATION.
-/
import Derived.Shelf.Strings.TrimSpace
import Derived.Shelf.Small.Bits
import Derived.Shelf.Small.Strs
import Derived.Shelf.Strings.Search1
import Derived.Ground.SlsfProg
import Derived.Shelf.SlSortCmp.Insertion
import Derived.Shelf.SlSortCmp.Small
import Derived.Shelf.SlSortCmp.SmallK
import Derived.Shelf.Strings.Builder1
import Derived.Shelf.Strings.Builder2
import Derived.Shelf.Strings.BuilderF
import Derived.Shelf.Strings.BuilderK
import Derived.Shelf.Strings.BuilderRune
import Derived.Test.YtpdnjgbcnnjdiaaGreatDoorProg
namespace Go.Proofs
open Go.Shelf
def Tryz.lays169_ren : Go.Shelf.Ren := ⟨fun | 169 => 33 | n => n, fun | 70 => 78 | 9 => 9 | 0 => 0 | 72 => 81 | 37 => 79 | 127 => 94 | 3 => 3 | 5 => 5 | n => n, fun | n => n⟩
theorem Tryz.lays169 : Go.Proofs.Lays.n169 Tryz.prog Tryz.lays169_ren := {
  mixed := by kernel_rfl
  f169 := Tryz.func33.trans (congrArg some (by kernel_rfl))
  t0 := Tryz.underlying0
  a0 := Tryz.isAgg0
  z0 := Tryz.sizeOf0
  v0 := Tryz.zeroValue0
  t3 := Tryz.underlying3
  a3 := Tryz.isAgg3
  z3 := Tryz.sizeOf3
  v3 := Tryz.zeroValue3
  t9 := Tryz.underlying9
  a9 := Tryz.isAgg9
  z9 := Tryz.sizeOf9
  v9 := Tryz.zeroValue9
  t37 := Tryz.underlying79
  a37 := Tryz.isAgg79
  z37 := Tryz.sizeOf79
  v37 := Tryz.zeroValue79
  t70 := Tryz.underlying78
  a70 := Tryz.isAgg78
  z70 := Tryz.sizeOf78
  v70 := Tryz.zeroValue78
  t72 := Tryz.underlying81
  a72 := Tryz.isAgg81
  z72 := Tryz.sizeOf81
  v72 := Tryz.zeroValue81
  t127 := Tryz.underlying94
  a127 := Tryz.isAgg94
  z127 := Tryz.sizeOf94
  v127 := Tryz.zeroValue94 }
theorem Tryz.Builder_Extra_169 : Builder.Extra Tryz.prog Tryz.lays169_ren := {
  sizeBuilder := by kernel_rfl
  liesBuilder := by kernel_rfl
  t5 := Tryz.underlying5
  a5 := Tryz.isAgg5
  z5 := Tryz.sizeOf5
  v5 := Tryz.zeroValue5
  infoByte := by kernel_rfl
  cellsByte := by kernel_rfl
  sizeByte := by kernel_rfl
  neB5 := by decide }
def Tryz.lays165_ren : Go.Shelf.Ren := ⟨fun | 165 => 32 | 240 => 41 | 241 => 42 | 276 => 56 | 277 => 57 | n => n, fun | 70 => 78 | 3 => 3 | 0 => 0 | 4 => 4 | 9 => 9 | 20 => 20 | 72 => 81 | 37 => 79 | 164 => 109 | 5 => 5 | n => n, fun | n => n⟩
theorem Tryz.lays165 : Go.Proofs.Lays.n165 Tryz.prog Tryz.lays165_ren := {
  mixed := by kernel_rfl
  f165 := Tryz.func32.trans (congrArg some (by kernel_rfl))
  f240 := Tryz.func41.trans (congrArg some (by kernel_rfl))
  f241 := Tryz.func42.trans (congrArg some (by kernel_rfl))
  f276 := Tryz.func56.trans (congrArg some (by kernel_rfl))
  f277 := Tryz.func57.trans (congrArg some (by kernel_rfl))
  t0 := Tryz.underlying0
  a0 := Tryz.isAgg0
  z0 := Tryz.sizeOf0
  v0 := Tryz.zeroValue0
  t3 := Tryz.underlying3
  a3 := Tryz.isAgg3
  z3 := Tryz.sizeOf3
  v3 := Tryz.zeroValue3
  t4 := Tryz.underlying4
  a4 := Tryz.isAgg4
  z4 := Tryz.sizeOf4
  v4 := Tryz.zeroValue4
  t9 := Tryz.underlying9
  a9 := Tryz.isAgg9
  z9 := Tryz.sizeOf9
  v9 := Tryz.zeroValue9
  t20 := Tryz.underlying20
  a20 := Tryz.isAgg20
  z20 := Tryz.sizeOf20
  v20 := Tryz.zeroValue20
  t37 := Tryz.underlying79
  a37 := Tryz.isAgg79
  z37 := Tryz.sizeOf79
  v37 := Tryz.zeroValue79
  t70 := Tryz.underlying78
  a70 := Tryz.isAgg78
  z70 := Tryz.sizeOf78
  v70 := Tryz.zeroValue78
  t72 := Tryz.underlying81
  a72 := Tryz.isAgg81
  z72 := Tryz.sizeOf81
  v72 := Tryz.zeroValue81
  t164 := Tryz.underlying109
  a164 := Tryz.isAgg109
  z164 := Tryz.sizeOf109
  v164 := Tryz.zeroValue109 }
theorem Tryz.Builder_Extra_165 : Builder.Extra Tryz.prog Tryz.lays165_ren := {
  sizeBuilder := by kernel_rfl
  liesBuilder := by kernel_rfl
  t5 := Tryz.underlying5
  a5 := Tryz.isAgg5
  z5 := Tryz.sizeOf5
  v5 := Tryz.zeroValue5
  infoByte := by kernel_rfl
  cellsByte := by kernel_rfl
  sizeByte := by kernel_rfl
  neB5 := by decide }
open Go.RowKit in
/-- (*strings.Builder).Grow AT A BUILDER THAT HAS NOT BEEN WRITTEN ('var b strings.Builder; b.Grow(n)'): "Grow grows b's capacity, if necessary, to guarantee space for another n bytes.": it holds no byte behind it as before it. (LAID: no walk: one application.) -/
theorem Tryz.Builder_Grow_fresh (B b n : Nat) (w : World) (hB : B ≤ b) (hbk : w.heap[b]? = some (.cells #[.pointer none, .slice none 0 0] 81 (0, 0))) (hBw : B ≤ w.heap.size) (hn : n ≤ 281474976710656) :
    Calls Tryz.prog 32 #[.pointer (some ⟨b, 0, none⟩), .int .i64 n] w fun e w' => e = .returned (.tuple #[]) ∧ (Lib.BuilderAt 81 5 B b (.pointer (some ⟨b, 0, none⟩)) [] w' ∧ Below B w w') := Any.Builder_Grow_fresh Tryz.lays165 Tryz.Builder_Extra_165 B b n w hB hbk hBw hn
def Tryz.lays163_ren : Go.Shelf.Ren := ⟨fun | 163 => 50 | 237 => 71 | 199 => 72 | 238 => 73 | 272 => 83 | 261 => 84 | 273 => 85 | 197 => 86 | 315 => 97 | 311 => 98 | 312 => 99 | 271 => 100 | 260 => 101 | 120 => 105 | n => n, fun | 9 => 9 | 37 => 79 | 3 => 3 | 0 => 0 | 5 => 5 | 4 => 4 | 40 => 128 | 119 => 129 | 21 => 21 | 51 => 112 | 141 => 139 | 105 => 141 | 196 => 155 | 193 => 152 | 198 => 158 | 49 => 156 | 194 => 153 | 201 => 161 | 226 => 165 | 46 => 51 | 227 => 166 | 139 => 169 | 138 => 168 | n => n, fun | 0 => 0 | 6 => 2 | 3 => 3 | 4 => 4 | n => n⟩
theorem Tryz.lays163 : Go.Proofs.Lays.n163 Tryz.prog Tryz.lays163_ren := {
  mixed := by kernel_rfl
  f120 := Tryz.func105.trans (congrArg some (by kernel_rfl))
  f163 := Tryz.func50.trans (congrArg some (by kernel_rfl))
  f197 := Tryz.func86.trans (congrArg some (by kernel_rfl))
  f199 := Tryz.func72.trans (congrArg some (by kernel_rfl))
  f237 := Tryz.func71.trans (congrArg some (by kernel_rfl))
  f238 := Tryz.func73.trans (congrArg some (by kernel_rfl))
  f260 := Tryz.func101.trans (congrArg some (by kernel_rfl))
  f261 := Tryz.func84.trans (congrArg some (by kernel_rfl))
  f271 := Tryz.func100.trans (congrArg some (by kernel_rfl))
  f272 := Tryz.func83.trans (congrArg some (by kernel_rfl))
  f273 := Tryz.func85.trans (congrArg some (by kernel_rfl))
  f311 := Tryz.func98.trans (congrArg some (by kernel_rfl))
  f312 := Tryz.func99.trans (congrArg some (by kernel_rfl))
  f315 := Tryz.func97.trans (congrArg some (by kernel_rfl))
  t0 := Tryz.underlying0
  a0 := Tryz.isAgg0
  z0 := Tryz.sizeOf0
  v0 := Tryz.zeroValue0
  t3 := Tryz.underlying3
  a3 := Tryz.isAgg3
  z3 := Tryz.sizeOf3
  v3 := Tryz.zeroValue3
  t4 := Tryz.underlying4
  a4 := Tryz.isAgg4
  z4 := Tryz.sizeOf4
  v4 := Tryz.zeroValue4
  t5 := Tryz.underlying5
  a5 := Tryz.isAgg5
  z5 := Tryz.sizeOf5
  v5 := Tryz.zeroValue5
  t9 := Tryz.underlying9
  a9 := Tryz.isAgg9
  z9 := Tryz.sizeOf9
  v9 := Tryz.zeroValue9
  t21 := Tryz.underlying21
  a21 := Tryz.isAgg21
  z21 := Tryz.sizeOf21
  v21 := Tryz.zeroValue21
  t37 := Tryz.underlying79
  a37 := Tryz.isAgg79
  z37 := Tryz.sizeOf79
  v37 := Tryz.zeroValue79
  t40 := Tryz.underlying128
  a40 := Tryz.isAgg128
  z40 := Tryz.sizeOf128
  v40 := Tryz.zeroValue128
  t46 := Tryz.underlying51
  a46 := Tryz.isAgg51
  z46 := Tryz.sizeOf51
  v46 := Tryz.zeroValue51
  t49 := Tryz.underlying156
  a49 := Tryz.isAgg156
  z49 := Tryz.sizeOf156
  v49 := Tryz.zeroValue156
  t51 := Tryz.underlying112
  a51 := Tryz.isAgg112
  z51 := Tryz.sizeOf112
  v51 := Tryz.zeroValue112
  t105 := Tryz.underlying141
  a105 := Tryz.isAgg141
  z105 := Tryz.sizeOf141
  v105 := Tryz.zeroValue141
  t119 := Tryz.underlying129
  a119 := Tryz.isAgg129
  z119 := Tryz.sizeOf129
  t138 := Tryz.underlying168
  a138 := Tryz.isAgg168
  z138 := Tryz.sizeOf168
  v138 := Tryz.zeroValue168
  t139 := Tryz.underlying169
  a139 := Tryz.isAgg169
  z139 := Tryz.sizeOf169
  v139 := Tryz.zeroValue169
  t141 := Tryz.underlying139
  a141 := Tryz.isAgg139
  z141 := Tryz.sizeOf139
  v141 := Tryz.zeroValue139
  t193 := Tryz.underlying152
  a193 := Tryz.isAgg152
  z193 := Tryz.sizeOf152
  v193 := Tryz.zeroValue152
  t194 := Tryz.underlying153
  a194 := Tryz.isAgg153
  z194 := Tryz.sizeOf153
  v194 := Tryz.zeroValue153
  t196 := Tryz.underlying155
  a196 := Tryz.isAgg155
  z196 := Tryz.sizeOf155
  v196 := Tryz.zeroValue155
  t198 := Tryz.underlying158
  a198 := Tryz.isAgg158
  z198 := Tryz.sizeOf158
  v198 := Tryz.zeroValue158
  t201 := Tryz.underlying161
  a201 := Tryz.isAgg161
  z201 := Tryz.sizeOf161
  v201 := Tryz.zeroValue161
  t226 := Tryz.underlying165
  a226 := Tryz.isAgg165
  z226 := Tryz.sizeOf165
  v226 := Tryz.zeroValue165
  t227 := Tryz.underlying166
  a227 := Tryz.isAgg166
  z227 := Tryz.sizeOf166
  v227 := Tryz.zeroValue166
  g0 := by kernel_rfl
  g3 := by kernel_rfl
  g4 := by kernel_rfl
  g6 := by kernel_rfl }
theorem Tryz.Space_Extra_163 : Space.Extra Tryz.prog Tryz.lays163_ren := {
  gNamed := by kernel_rfl }
open Go.RowKit in
theorem Tryz.strings_TrimSpace (s : ByteArray) (w : World) (hs : s.size ≤ 9223372036854775807) (hascii : ∀ (j : Nat) b, s.data.toList[j]? = some b → b.toNat < 128) (htab : Lib.TabIs Tryz.prog w "strings.asciiSpace" .u8 Lib.asciiSpaceTab) :
    Calls Tryz.prog 50 #[.string s] w fun e w' => e = .returned (.string ⟨(Lib.trimSpace s.data.toList).toArray⟩) ∧ w' = Lib.bytesWorld w 5 s := Any.strings_TrimSpace Tryz.lays163 Tryz.Space_Extra_163 s w hs hascii htab
def Tryz.lays125_ren : Go.Shelf.Ren := ⟨fun | 125 => 45 | 128 => 68 | 129 => 69 | n => n, fun | 46 => 51 | 3 => 3 | 51 => 112 | 53 => 123 | 4 => 4 | 5 => 5 | 9 => 9 | n => n, fun | n => n⟩
theorem Tryz.lays125 : Go.Proofs.Lays.n125 Tryz.prog Tryz.lays125_ren := {
  mixed := by kernel_rfl
  f125 := Tryz.func45.trans (congrArg some (by kernel_rfl))
  f128 := Tryz.func68.trans (congrArg some (by kernel_rfl))
  f129 := Tryz.func69.trans (congrArg some (by kernel_rfl))
  t3 := Tryz.underlying3
  a3 := Tryz.isAgg3
  z3 := Tryz.sizeOf3
  v3 := Tryz.zeroValue3
  t4 := Tryz.underlying4
  a4 := Tryz.isAgg4
  z4 := Tryz.sizeOf4
  v4 := Tryz.zeroValue4
  t5 := Tryz.underlying5
  a5 := Tryz.isAgg5
  z5 := Tryz.sizeOf5
  v5 := Tryz.zeroValue5
  t9 := Tryz.underlying9
  a9 := Tryz.isAgg9
  z9 := Tryz.sizeOf9
  v9 := Tryz.zeroValue9
  t46 := Tryz.underlying51
  a46 := Tryz.isAgg51
  z46 := Tryz.sizeOf51
  v46 := Tryz.zeroValue51
  t51 := Tryz.underlying112
  a51 := Tryz.isAgg112
  z51 := Tryz.sizeOf112
  v51 := Tryz.zeroValue112
  t53 := Tryz.underlying123
  a53 := Tryz.isAgg123
  z53 := Tryz.sizeOf123
  v53 := Tryz.zeroValue123 }
/-- bits.Len: "Len returns the minimum number of bits required to represent x; the result is 0 for x == 0.": IT RETURNS 'Lib.bitLen x'; the world is as it was. (A uint has 64 bits in the model.) ITS CALLEE bits.Len64 IS MET BY ITS OWN CONTRACT OFF THE SHELF (lay that first). (LAID: no walk: one application.) -/
theorem Tryz.bits_Len (x : Int) (w : World) (h0 : 0 ≤ x) (h1 : x ≤ 18446744073709551615) :
    Calls Tryz.prog 45 #[.int .u64 x] w fun e w' => e = .returned (.int .i64 (Lib.bitLen x.toNat)) ∧ w' = w := Any.bits_Len Tryz.lays125 x w h0 h1
def Tryz.lays137_ren : Go.Shelf.Ren := ⟨fun | 137 => 31 | 217 => 40 | 266 => 55 | n => n, fun | 9 => 9 | 5 => 5 | 3 => 3 | n => n, fun | n => n⟩
theorem Tryz.lays137 : Go.Proofs.Lays.n137 Tryz.prog Tryz.lays137_ren := {
  mixed := by kernel_rfl
  f137 := Tryz.func31.trans (congrArg some (by kernel_rfl))
  f217 := Tryz.func40.trans (congrArg some (by kernel_rfl))
  f266 := Tryz.func55.trans (congrArg some (by kernel_rfl))
  t3 := Tryz.underlying3
  a3 := Tryz.isAgg3
  z3 := Tryz.sizeOf3
  v3 := Tryz.zeroValue3
  t5 := Tryz.underlying5
  a5 := Tryz.isAgg5
  z5 := Tryz.sizeOf5
  v5 := Tryz.zeroValue5
  t9 := Tryz.underlying9
  a9 := Tryz.isAgg9
  z9 := Tryz.sizeOf9
  v9 := Tryz.zeroValue9 }
open Go.RowKit in
/-- strings.IndexByte: "IndexByte returns the index of the first instance of c in s, or -1 if c is not present in s.": IT RETURNS 'Lib.indexByte s c'; the world is as it was. (LAID: no walk: one application.) -/
theorem Tryz.strings_IndexByte (s : ByteArray) (c : Int) (w : World) :
    Calls Tryz.prog 31 #[.string s, .int .u8 c] w fun e w' => e = .returned (.int .i64 (Lib.indexByte s.data.toList c.toNat.toUInt8)) ∧ w' = w := Any.strings_IndexByte Tryz.lays137 s c w
open Go.RowKit in
/-- (*strings.Builder).String: "String returns the accumulated string.": WHATEVER THE BUILDER HOLDS; THE FORM '_k': OVER 'Lib.IsBuilderF' (a builder that 'String()' may have read), AND WITH THE FRAME THAT REACHES ABOVE THE BUILDER: 'Lib.OthersKept': every block that is not b and is no row of uint8's stands as it stood: the iterator of a range among them. (LAID: no walk: one application.) -/
theorem Tryz.Builder_String_any_k (B b : Nat) (l : List UInt8) (w : World) (h : Lib.IsBuilderF 81 5 B b (Lib.byteCells l) w) (hBw : B ≤ w.heap.size) :
    Calls Tryz.prog 33 #[.pointer (some ⟨b, 0, none⟩)] w fun e w' => e = .returned (.string ⟨l.toArray⟩) ∧ (Lib.IsBuilderF 81 5 B b (Lib.byteCells l) w' ∧ Below B w w' ∧ Lib.OthersKept 5 (some b) w w') := Any.Builder_String_any_k Tryz.lays169 Tryz.Builder_Extra_169 B b l w h hBw
def Tryz.pdqSfx_ren : Go.Shelf.Ren := ⟨fun | 14 => 74 | 20 => 87 | 21 => 88 | 22 => 89 | 23 => 90 | 24 => 91 | 25 => 92 | 26 => 93 | 27 => 94 | 46 => 102 | 47 => 78 | 48 => 79 | 49 => 103 | 50 => 104 | 15 => 45 | 57 => 106 | 28 => 68 | 29 => 69 | n => n, fun | 24 => 101 | 22 => 59 | 3 => 3 | 25 => 108 | 4 => 4 | 0 => 0 | 46 => 115 | 45 => 114 | 50 => 119 | 66 => 132 | 39 => 51 | 55 => 123 | 70 => 136 | 76 => 149 | 77 => 150 | 53 => 112 | 5 => 5 | 9 => 9 | n => n, fun | n => n⟩
theorem Tryz.pdqSfx : Go.Proofs.SlLaysF0.n14 Tryz.prog Tryz.pdqSfx_ren := {
  mixed := by kernel_rfl
  f14 := ⟨Tryz.f74.name, by decide, Tryz.func74.trans (congrArg some (by kernel_rfl))⟩
  f15 := Tryz.func45.trans (congrArg some (by kernel_rfl))
  f20 := ⟨Tryz.f87.name, by decide, Tryz.func87.trans (congrArg some (by kernel_rfl))⟩
  f21 := ⟨Tryz.f88.name, by decide, Tryz.func88.trans (congrArg some (by kernel_rfl))⟩
  f22 := ⟨Tryz.f89.name, by decide, Tryz.func89.trans (congrArg some (by kernel_rfl))⟩
  f23 := ⟨Tryz.f90.name, by decide, Tryz.func90.trans (congrArg some (by kernel_rfl))⟩
  f24 := ⟨Tryz.f91.name, by decide, Tryz.func91.trans (congrArg some (by kernel_rfl))⟩
  f25 := ⟨Tryz.f92.name, by decide, Tryz.func92.trans (congrArg some (by kernel_rfl))⟩
  f26 := ⟨Tryz.f93.name, by decide, Tryz.func93.trans (congrArg some (by kernel_rfl))⟩
  f27 := ⟨Tryz.f94.name, by decide, Tryz.func94.trans (congrArg some (by kernel_rfl))⟩
  f28 := Tryz.func68.trans (congrArg some (by kernel_rfl))
  f29 := Tryz.func69.trans (congrArg some (by kernel_rfl))
  f46 := ⟨Tryz.f102.name, by decide, Tryz.func102.trans (congrArg some (by kernel_rfl))⟩
  f47 := Tryz.func78.trans (congrArg some (by kernel_rfl))
  f48 := Tryz.func79.trans (congrArg some (by kernel_rfl))
  f49 := ⟨Tryz.f103.name, by decide, Tryz.func103.trans (congrArg some (by kernel_rfl))⟩
  f50 := ⟨Tryz.f104.name, by decide, Tryz.func104.trans (congrArg some (by kernel_rfl))⟩
  f57 := ⟨Tryz.f106.name, by decide, Tryz.func106.trans (congrArg some (by kernel_rfl))⟩
  t0 := Tryz.underlying0
  a0 := Tryz.isAgg0
  z0 := Tryz.sizeOf0
  v0 := Tryz.zeroValue0
  t3 := Tryz.underlying3
  a3 := Tryz.isAgg3
  z3 := Tryz.sizeOf3
  v3 := Tryz.zeroValue3
  t4 := Tryz.underlying4
  a4 := Tryz.isAgg4
  z4 := Tryz.sizeOf4
  v4 := Tryz.zeroValue4
  t5 := Tryz.underlying5
  a5 := Tryz.isAgg5
  z5 := Tryz.sizeOf5
  v5 := Tryz.zeroValue5
  t9 := Tryz.underlying9
  a9 := Tryz.isAgg9
  z9 := Tryz.sizeOf9
  v9 := Tryz.zeroValue9
  t22 := Tryz.underlying59
  a22 := Tryz.isAgg59
  z22 := Tryz.sizeOf59
  v22 := Tryz.zeroValue59
  t25 := Tryz.underlying108
  a25 := Tryz.isAgg108
  z25 := Tryz.sizeOf108
  v25 := Tryz.zeroValue108
  t39 := Tryz.underlying51
  a39 := Tryz.isAgg51
  z39 := Tryz.sizeOf51
  v39 := Tryz.zeroValue51
  t45 := Tryz.underlying114
  a45 := Tryz.isAgg114
  z45 := Tryz.sizeOf114
  v45 := Tryz.zeroValue114
  t46 := Tryz.underlying115
  a46 := Tryz.isAgg115
  z46 := Tryz.sizeOf115
  v46 := Tryz.zeroValue115
  t50 := Tryz.underlying119
  a50 := Tryz.isAgg119
  z50 := Tryz.sizeOf119
  v50 := Tryz.zeroValue119
  t53 := Tryz.underlying112
  a53 := Tryz.isAgg112
  z53 := Tryz.sizeOf112
  v53 := Tryz.zeroValue112
  t55 := Tryz.underlying123
  a55 := Tryz.isAgg123
  z55 := Tryz.sizeOf123
  v55 := Tryz.zeroValue123
  t66 := Tryz.underlying132
  a66 := Tryz.isAgg132
  z66 := Tryz.sizeOf132
  v66 := Tryz.zeroValue132
  t70 := Tryz.underlying136
  a70 := Tryz.isAgg136
  z70 := Tryz.sizeOf136
  v70 := Tryz.zeroValue136
  t76 := Tryz.underlying149
  a76 := Tryz.isAgg149
  z76 := Tryz.sizeOf149
  v76 := Tryz.zeroValue149
  t77 := Tryz.underlying150
  a77 := Tryz.isAgg150
  z77 := Tryz.sizeOf150
  v77 := Tryz.zeroValue150 }
end Go.Proofs
